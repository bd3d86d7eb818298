import Derived.Test.Qxb6603957aRows
import Derived.Test.Qxb6603957aArr
import Derived.Test.Qxb6603957aPlain
import Derived.Deep.QuietTactic
import Derived.BigQuiet
namespace Go.Proofs.Qxb6603957a
open Go.RowKit
set_option linter.unusedVariables false

theorem Try.info3 : (Try.prog.info? 3).map (fun i => (i.zero, i.size, i.bytes)) = some (some (.int .i64 0), 1, 8) := by kernel_rfl
theorem Try.info4 : (Try.prog.info? 4).map (fun i => (i.zero, i.size, i.bytes)) = some (some (.bool false), 1, 1) := by kernel_rfl

theorem eql_nil22 (w : World) (a : Option Addr) (n c : Nat) : (binOp .eql 22 (.slice a n c) (.slice none 0 0)).run Try.prog w = .ok (.bool a.isNone) w :=
  Lib.run_eql_slice_nil (P := Try.prog) w 22 3 a n c 0 0 Try.underlying22
theorem eql_nil23 (w : World) (a : Option Addr) (n c : Nat) : (binOp .eql 23 (.slice a n c) (.slice none 0 0)).run Try.prog w = .ok (.bool a.isNone) w :=
  Lib.run_eql_slice_nil (P := Try.prog) w 23 4 a n c 0 0 Try.underlying23

def boolsF (C : Nat → Bool) : Nat → Value := fun i => .bool (C i)
def intsF (L : Nat → Int) : Nat → Value := fun i => .int .i64 (L i)

/-! ### The bound on lengths -/
set_option maxHeartbeats 400000 in
theorem zzbytes_yes (a b d : Option Addr) (n m k ca cb cd : Nat) (w : World) (h : (n : Int) + (m : Int) + (k : Int) ≤ 1048576) :
    Calls Try.prog 4 #[.slice a n ca, .slice b m cb, .slice d k cd] w fun e w' => e = .returned (.bool true) ∧ w = w' := by
  go_enter Try.func4, Try.ntmps4
  go_wp2
  go_ret
  exact ⟨rfl, rfl⟩

set_option maxHeartbeats 400000 in
theorem zzbytes_no (a b d : Option Addr) (n m k ca cb cd : Nat) (w : World) (h1 : n ≤ maxLen) (h2 : m ≤ maxLen) (h3 : k ≤ maxLen) (h : ¬ (n : Int) + (m : Int) + (k : Int) ≤ 1048576) :
    Calls Try.prog 4 #[.slice a n ca, .slice b m cb, .slice d k cd] w fun e w' => e = .returned (.bool false) ∧ w = w' := by
  unfold maxLen at h1 h2 h3
  by_cases q1 : (1048576 : Int) < (n : Int)
  · go_enter Try.func4, Try.ntmps4
    go_wp2
    go_ret
    exact ⟨rfl, rfl⟩
  · by_cases q2 : (1048576 : Int) < (m : Int)
    · go_enter Try.func4, Try.ntmps4
      go_wp2
      go_ret
      exact ⟨rfl, rfl⟩
    · by_cases q3 : (1048576 : Int) < (n : Int) + (m : Int)
      · go_enter Try.func4, Try.ntmps4
        go_wp2
        go_ret
        exact ⟨rfl, rfl⟩
      · by_cases q4 : (1048576 : Int) < (k : Int)
        · go_enter Try.func4, Try.ntmps4
          go_wp2
          go_ret
          exact ⟨rfl, rfl⟩
        · go_enter Try.func4, Try.ntmps4
          go_wp2
          go_ret
          exact ⟨rfl, rfl⟩

/-! ### Counting -/
set_option maxHeartbeats 400000 in
theorem falses_any (a : Option Addr) (n c : Nat) (C : Nat → Bool) (w : World) (hn : (n : Int) ≤ 1048576) (hs : Sl w a n (boolsF C)) :
    Calls Try.prog 5 #[.slice a n c] w fun e w' => e = .returned (.int .i64 (fc C n)) ∧ w = w' := by
  have HS : Hid (Sl w a n (boolsF C)) := hs
  clear hs
  go_enter Try.func5, Try.ntmps5
  go_wp2
  go_loop [3, 4] (fun t i => ∃ k : Nat, k ≤ n ∧ i = .int .i64 k ∧ t = .int .i64 (fc C k)) (fun _ i => n - (intOf i).toNat)
  case atStart => exact ⟨0, Nat.zero_le _, rfl, rfl⟩
  case round =>
    obtain ⟨k, hk, rfl, rfl⟩ := hrel
    have hf := fc_le C k
    by_cases hlt : k < n
    · obtain ⟨b, off, rfl, hb, hc⟩ := HS.out (by omega)
      have h1 := hc k hlt
      clear hc
      cases hC : C k with
      | true =>
        have h2 : w.cell? ⟨b, off + k, none⟩ = some (.bool true) := by rw [h1]; show some (Value.bool (C k)) = _; rw [hC]
        have HF : Hid (fc C (k + 1) = fc C k) := fc_yes hC
        clear h1 hC
        go_wp2
        go_round
        case rel => exact ⟨k + 1, by omega, by go_num, by rw [HF.out]⟩
        case measure => simp [intOf]; omega
      | false =>
        have h2 : w.cell? ⟨b, off + k, none⟩ = some (.bool false) := by rw [h1]; show some (Value.bool (C k)) = _; rw [hC]
        have HF : Hid (fc C (k + 1) = fc C k + 1) := fc_no hC
        clear h1 hC
        go_wp2
        go_round
        case rel => exact ⟨k + 1, by omega, by go_num, by rw [HF.out]; go_num⟩
        case measure => simp [intOf]; omega
    · obtain rfl : k = n := by omega
      go_wp2
      go_ret
      exact ⟨rfl, rfl⟩

/-! ### Clones -/
/-- What a clone is: nil or empty for no line; else a row of the call's own. -/
def Cloned (w w' : World) (a : Option Addr) (T : TypeId) (n : Nat) (f : Nat → Value) : Prop :=
  Below w.heap.size w w' ∧ (0 < n → a = some ⟨w.heap.size, 0, none⟩ ∧ Row w' w.heap.size T n f)

set_option maxHeartbeats 400000 in
theorem cloneInts_some (b off n c : Nat) (L : Nat → Int) (w : World) (hn : (n : Int) ≤ 1048576) (hb : b < w.heap.size) (hc : ∀ j, j < n → w.cell? ⟨b, off + j, none⟩ = some (intsF L j)) :
    Calls Try.prog 6 #[.slice (some ⟨b, off, none⟩) n c] w fun e w' => e = .returned (.slice (some ⟨w.heap.size, 0, none⟩) n n) ∧ Row w' w.heap.size 3 n (intsF L) ∧ Below w.heap.size w w' := by
  obtain ⟨i0, hi, hz0, hz1, hz2⟩ := info_parts Try.info3
  have HC : Hid (∀ j, j < n → w.cell? ⟨b, off + j, none⟩ = some (intsF L j)) := hc
  have hnil := eql_nil22
  clear hc
  go_enter Try.func6, Try.ntmps6
  go_wp2_with (at_make; refine wpList_make_full _ rfl _ _ 22 rfl w.heap.size 3 i0 (.int .i64 0) 1 Try.underlying22 hi hz0 hz1 _ _ _ _ n rfl rfl rfl rfl ?b2 ?b3 (Nat.le_refl _) ?_)
  case b2 => rw [hz2]; omega
  case b3 => unfold maxLen; omega
  intro w1 hown hgrow
  have hA : Row w1 w.heap.size 3 n (fun j => if j < 0 then intsF L j else .int .i64 0) := (Row.of_made hown).congr (fun i _ => (if_neg (by omega)).symm)
  have hB : Below w.heap.size w w1 := (Below.refl _ _).grown hgrow (Nat.le_refl _) (fun k h => by cases h)
  clear hown hgrow hi hz0 hz1 hz2
  go_wp2
  go_loopw [4] (fun i wr => ∃ k : Nat, k ≤ n ∧ i = .int .i64 k ∧ Row wr w.heap.size 3 n (fun j => if j < k then intsF L j else .int .i64 0) ∧ Below w.heap.size w wr) (fun i _ => n - (intOf i).toNat)
  case atStart => exact ⟨0, Nat.zero_le _, rfl, hA, hB⟩
  case round =>
    obtain ⟨k, hk, rfl, hAr, hBr⟩ := hrel
    by_cases hlt : k < n
    · have h1 := hAr.cell k hlt
      rw [if_neg (by omega)] at h1
      have h2 := hAr.free k
      have h3 : wr.cell? ⟨b, off + k, none⟩ = some (.int .i64 (L k)) := (hBr.cell (by exact hb)).trans (HC.out k hlt)
      have HS : Hid (Row (wr.setCell ⟨w.heap.size, k, none⟩ (.int .i64 (L k))) w.heap.size 3 n (fun j => if j < k + 1 then intsF L j else .int .i64 0)) := (hAr.set k (.int .i64 (L k))).congr (fun j hj => by
        by_cases e : j = k
        · subst e
          rw [if_pos rfl, if_pos (by omega)]
          rfl
        · rw [if_neg e]
          by_cases e2 : j < k
          · rw [if_pos e2, if_pos (by omega)]
          · rw [if_neg e2, if_neg (by omega)])
      go_wp2
      go_roundw
      case rel => exact ⟨k + 1, by omega, by go_num, HS.out, hBr.setCell (Nat.le_refl _) _⟩
      case measure => simp [intOf]; omega
    · obtain rfl : k = n := by omega
      go_wp2
      go_ret
      exact ⟨rfl, hAr.congr (fun j hj => if_pos hj), hBr⟩

set_option maxHeartbeats 400000 in
theorem cloneInts_any (a : Option Addr) (n c : Nat) (L : Nat → Int) (w : World) (hn : (n : Int) ≤ 1048576) (ha : a = none → n = 0) (hs : Sl w a n (intsF L)) :
    Calls Try.prog 6 #[.slice a n c] w fun e w' => ∃ a', e = .returned (.slice a' n n) ∧ Cloned w w' a' 3 n (intsF L) := by
  by_cases h0 : 0 < n
  · obtain ⟨b, off, rfl, hb, hc⟩ := hs h0
    refine (cloneInts_some b off n c L w hn hb hc).mono ?_
    rintro e w' ⟨rfl, h1, h2⟩
    exact ⟨_, rfl, h2, fun _ => ⟨rfl, h1⟩⟩
  · obtain rfl : n = 0 := by omega
    have hnil := eql_nil22
    clear hs ha
    cases a with
    | none =>
      go_enter Try.func6, Try.ntmps6
      go_wp2
      go_ret
      exact ⟨none, rfl, Below.refl _ _, fun h => by omega⟩
    | some x =>
      obtain ⟨i0, hi, hz0, hz1, hz2⟩ := info_parts Try.info3
      go_enter Try.func6, Try.ntmps6
      go_wp2_with (at_make; refine wpList_make_full _ rfl _ _ 22 rfl w.heap.size 3 i0 (.int .i64 0) 1 Try.underlying22 hi hz0 hz1 _ _ _ _ 0 rfl rfl rfl rfl ?b2 ?b3 (Nat.le_refl _) ?_)
      case b2 => omega
      case b3 => unfold maxLen; omega
      intro w1 hown hgrow
      have hB : Below w.heap.size w w1 := (Below.refl _ _).grown hgrow (Nat.le_refl _) (fun k h => by cases h)
      clear hown hgrow hi hz0 hz1 hz2
      go_wp2
      refine wp_loop_rounds 1 ?_
      rw [rounds_succ]
      go_wp2
      go_ret
      exact ⟨_, rfl, hB, fun h => by omega⟩

set_option maxHeartbeats 400000 in
theorem cloneBools_some (b off n c : Nat) (C : Nat → Bool) (w : World) (hn : (n : Int) ≤ 1048576) (hb : b < w.heap.size) (hc : ∀ j, j < n → w.cell? ⟨b, off + j, none⟩ = some (boolsF C j)) :
    Calls Try.prog 7 #[.slice (some ⟨b, off, none⟩) n c] w fun e w' => e = .returned (.slice (some ⟨w.heap.size, 0, none⟩) n n) ∧ Row w' w.heap.size 4 n (boolsF C) ∧ Below w.heap.size w w' := by
  obtain ⟨i0, hi, hz0, hz1, hz2⟩ := info_parts Try.info4
  have HC : Hid (∀ j, j < n → w.cell? ⟨b, off + j, none⟩ = some (boolsF C j)) := hc
  have hnil := eql_nil23
  clear hc
  go_enter Try.func7, Try.ntmps7
  go_wp2_with (at_make; refine wpList_make_full _ rfl _ _ 23 rfl w.heap.size 4 i0 (.bool false) 1 Try.underlying23 hi hz0 hz1 _ _ _ _ n rfl rfl rfl rfl ?b2 ?b3 (Nat.le_refl _) ?_)
  case b2 => rw [hz2]; omega
  case b3 => unfold maxLen; omega
  intro w1 hown hgrow
  have hA : Row w1 w.heap.size 4 n (fun j => if j < 0 then boolsF C j else .bool false) := (Row.of_made hown).congr (fun i _ => (if_neg (by omega)).symm)
  have hB : Below w.heap.size w w1 := (Below.refl _ _).grown hgrow (Nat.le_refl _) (fun k h => by cases h)
  clear hown hgrow hi hz0 hz1 hz2
  go_wp2
  go_loopw [4] (fun i wr => ∃ k : Nat, k ≤ n ∧ i = .int .i64 k ∧ Row wr w.heap.size 4 n (fun j => if j < k then boolsF C j else .bool false) ∧ Below w.heap.size w wr) (fun i _ => n - (intOf i).toNat)
  case atStart => exact ⟨0, Nat.zero_le _, rfl, hA, hB⟩
  case round =>
    obtain ⟨k, hk, rfl, hAr, hBr⟩ := hrel
    by_cases hlt : k < n
    · have h1 := hAr.cell k hlt
      rw [if_neg (by omega)] at h1
      have h2 := hAr.free k
      have h3 : wr.cell? ⟨b, off + k, none⟩ = some (.bool (C k)) := (hBr.cell (by exact hb)).trans (HC.out k hlt)
      have HS : Hid (Row (wr.setCell ⟨w.heap.size, k, none⟩ (.bool (C k))) w.heap.size 4 n (fun j => if j < k + 1 then boolsF C j else .bool false)) := (hAr.set k (.bool (C k))).congr (fun j hj => by
        by_cases e : j = k
        · subst e
          rw [if_pos rfl, if_pos (by omega)]
          rfl
        · rw [if_neg e]
          by_cases e2 : j < k
          · rw [if_pos e2, if_pos (by omega)]
          · rw [if_neg e2, if_neg (by omega)])
      go_wp2
      go_roundw
      case rel => exact ⟨k + 1, by omega, by go_num, HS.out, hBr.setCell (Nat.le_refl _) _⟩
      case measure => simp [intOf]; omega
    · obtain rfl : k = n := by omega
      go_wp2
      go_ret
      exact ⟨rfl, hAr.congr (fun j hj => if_pos hj), hBr⟩

set_option maxHeartbeats 400000 in
theorem cloneBools_any (a : Option Addr) (n c : Nat) (C : Nat → Bool) (w : World) (hn : (n : Int) ≤ 1048576) (ha : a = none → n = 0) (hs : Sl w a n (boolsF C)) :
    Calls Try.prog 7 #[.slice a n c] w fun e w' => ∃ a', e = .returned (.slice a' n n) ∧ Cloned w w' a' 4 n (boolsF C) := by
  by_cases h0 : 0 < n
  · obtain ⟨b, off, rfl, hb, hc⟩ := hs h0
    refine (cloneBools_some b off n c C w hn hb hc).mono ?_
    rintro e w' ⟨rfl, h1, h2⟩
    exact ⟨_, rfl, h2, fun _ => ⟨rfl, h1⟩⟩
  · obtain rfl : n = 0 := by omega
    have hnil := eql_nil23
    clear hs ha
    cases a with
    | none =>
      go_enter Try.func7, Try.ntmps7
      go_wp2
      go_ret
      exact ⟨none, rfl, Below.refl _ _, fun h => by omega⟩
    | some x =>
      obtain ⟨i0, hi, hz0, hz1, hz2⟩ := info_parts Try.info4
      go_enter Try.func7, Try.ntmps7
      go_wp2_with (at_make; refine wpList_make_full _ rfl _ _ 23 rfl w.heap.size 4 i0 (.bool false) 1 Try.underlying23 hi hz0 hz1 _ _ _ _ 0 rfl rfl rfl rfl ?b2 ?b3 (Nat.le_refl _) ?_)
      case b2 => omega
      case b3 => unfold maxLen; omega
      intro w1 hown hgrow
      have hB : Below w.heap.size w w1 := (Below.refl _ _).grown hgrow (Nat.le_refl _) (fun k h => by cases h)
      clear hown hgrow hi hz0 hz1 hz2
      go_wp2
      refine wp_loop_rounds 1 ?_
      rw [rounds_succ]
      go_wp2
      go_ret
      exact ⟨_, rfl, hB, fun h => by omega⟩

end Go.Proofs.Qxb6603957a
