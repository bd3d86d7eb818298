import Derived.Test.Qxb6602730aRows
import Derived.Test.Qxb6602730aArr
import Derived.Deep.QuietTactic
import Derived.BigQuiet
namespace Go.Proofs.Qxb6602730a
open Go.RowKit
set_option linter.unusedVariables false

theorem Try.info3 : (Try.prog.info? 3).map (fun i => (i.zero, i.size, i.bytes)) = some (some (.int .i64 0), 1, 8) := by kernel_rfl

theorem eql_nil (w : World) (a : Option Addr) (n c : Nat) : (binOp .eql 22 (.slice a n c) (.slice none 0 0)).run Try.prog w = .ok (.bool a.isNone) w :=
  Lib.run_eql_slice_nil (P := Try.prog) w 22 3 a n c 0 0 Try.underlying22

set_option maxHeartbeats 400000 in
theorem clone_nil (w : World) : Calls Try.prog 9 #[.slice none 0 0] w fun e w' => e = .returned (.slice none 0 0) ∧ w = w' := by
  have hnil := eql_nil
  go_enter Try.func9, Try.ntmps9
  go_wp2
  go_ret
  exact ⟨rfl, rfl⟩

set_option maxHeartbeats 400000 in
theorem clone_some (b off n c : Nat) (zs : List Int) (w : World) (hn : (n : Int) ≤ 1048576) (hz : n ≤ zs.length) (hb : b < w.heap.size) (hc : ∀ j, j < n → w.cell? ⟨b, off + j, none⟩ = some (.int .i64 (zs.getD j 0))) :
    Calls Try.prog 9 #[.slice (some ⟨b, off, none⟩) n c] w fun e w' => e = .returned (.slice (some ⟨w.heap.size, 0, none⟩) n n) ∧ Arr w' w.heap.size 3 (ints (zs.take n)) ∧ Below w.heap.size w w' := by
  obtain ⟨i0, hi, hz0, hz1, hz2⟩ := info_parts Try.info3
  have HC : Hid (∀ j, j < n → w.cell? ⟨b, off + j, none⟩ = some (.int .i64 (zs.getD j 0))) := hc
  have hnil := eql_nil
  clear hc
  go_enter Try.func9, Try.ntmps9
  go_wp2_with (at_make; refine wpList_make_full _ rfl _ _ 22 rfl w.heap.size 3 i0 (.int .i64 0) 1 Try.underlying22 hi hz0 hz1 _ _ _ _ n rfl rfl rfl rfl ?b2 ?b3 (Nat.le_refl _) ?_)
  case b2 => rw [hz2]; omega
  case b3 => unfold maxLen; omega
  intro w1 hown hgrow
  have hA : Arr w1 w.heap.size 3 (ints (cop zs n 0)) := by
    have := (Arr.of_own hown).1
    rw [cop_zero, ints, List.map_replicate]
    rwa [toList_madeCells_one] at this
  have hB : Below w.heap.size w w1 := (Below.refl _ _).grown hgrow (Nat.le_refl _) (fun k h => by cases h)
  clear hown hgrow hi hz0 hz1 hz2
  go_wp2
  go_loopw [4] (fun i wr => ∃ k : Nat, k ≤ n ∧ i = .int .i64 k ∧ Arr wr w.heap.size 3 (ints (cop zs n k)) ∧ Below w.heap.size w wr) (fun i _ => n - (intOf i).toNat)
  case atStart => exact ⟨0, Nat.zero_le _, rfl, hA, hB⟩
  case round =>
    obtain ⟨k, hk, rfl, hAr, hBr⟩ := hrel
    by_cases hlt : k < n
    · have hlen := cop_length zs n k hk hz
      have h1 := hAr.cell k _ (ints_get _ k (by omega))
      have h2 := hAr.free k
      have h3 : wr.cell? ⟨b, off + k, none⟩ = some (.int .i64 (zs.getD k 0)) := (hBr.cell (by exact hb)).trans (HC.out k hlt)
      have HS : Hid (Arr (wr.setCell ⟨w.heap.size, k, none⟩ (.int .i64 (zs.getD k 0))) w.heap.size 3 (ints (cop zs n (k + 1)))) := by
        have := hAr.set k (.int .i64 (zs.getD k 0))
        rwa [ints_set, ← cop_succ zs n k hlt hz] at this
      clear hlen
      go_wp2
      go_roundw
      case rel => exact ⟨k + 1, by omega, by go_num, HS.out, hBr.setCell (Nat.le_refl _) _⟩
      case measure => simp [intOf]; omega
    · obtain rfl : k = n := by omega
      go_wp2
      go_ret
      exact ⟨rfl, by rw [← cop_full]; exact hAr, hBr⟩

/-- An empty slice that is not nil, wherever it lies. -/
theorem clone_empty (x : Addr) (c : Nat) (w : World) :
    Calls Try.prog 9 #[.slice (some x) 0 c] w fun e w' => e = .returned (.slice (some ⟨w.heap.size, 0, none⟩) 0 0) ∧ Arr w' w.heap.size 3 (ints []) ∧ Below w.heap.size w w' := by
  obtain ⟨i0, hi, hz0, hz1, hz2⟩ := info_parts Try.info3
  have hnil := eql_nil
  go_enter Try.func9, Try.ntmps9
  go_wp2_with (at_make; refine wpList_make_full _ rfl _ _ 22 rfl w.heap.size 3 i0 (.int .i64 0) 1 Try.underlying22 hi hz0 hz1 _ _ _ _ 0 rfl rfl rfl rfl ?b2 ?b3 (Nat.le_refl _) ?_)
  case b2 => omega
  case b3 => unfold maxLen; omega
  intro w1 hown hgrow
  have hA : Arr w1 w.heap.size 3 (ints []) := by
    have := (Arr.of_own hown).1
    rwa [toList_madeCells_one] at this
  have hB : Below w.heap.size w w1 := (Below.refl _ _).grown hgrow (Nat.le_refl _) (fun k h => by cases h)
  clear hown hgrow hi hz0 hz1 hz2
  go_wp2
  refine wp_loop_rounds 1 ?_
  rw [rounds_succ]
  go_wp2
  go_ret
  exact ⟨rfl, hA, hB⟩

/-- shift, plain. -/
def sh (by_ : Int) (x : Int) : Int := if 0 ≤ x then wrap64 (x + by_) else x
theorem sh_pos {b x : Int} (h : 0 ≤ x) : sh b x = wrap64 (x + b) := if_pos h
theorem sh_neg {b x : Int} (h : ¬ 0 ≤ x) : sh b x = x := if_neg h

set_option maxHeartbeats 400000 in
theorem shift_nil (b : Int) (w : World) : Calls Try.prog 19 #[.slice none 0 0, .int .i64 b] w fun e w' => e = .returned (.slice none 0 0) ∧ w = w' := by
  go_enter Try.func19, Try.ntmps19
  go_wp2
  refine wp_loop_rounds 1 ?_
  rw [rounds_succ]
  go_wp2
  go_ret
  exact ⟨rfl, rfl⟩

set_option maxHeartbeats 400000 in
theorem shift_some (g n : Nat) (zs : List Int) (b : Int) (w : World) (hn : (n : Int) ≤ 1048576) (hz : zs.length = n) (hA : Arr w g 3 (ints zs)) :
    Calls Try.prog 19 #[.slice (some ⟨g, 0, none⟩) n n, .int .i64 b] w fun e w' => e = .returned (.slice (some ⟨g, 0, none⟩) n n) ∧ Arr w' g 3 (ints (zs.map (sh b))) ∧ w.grownBy w' (some g) := by
  have HZ : Hid (zs.length = n) := hz
  clear hz
  go_enter Try.func19, Try.ntmps19
  go_wp2
  go_loopw [9] (fun i wr => ∃ k : Nat, k ≤ n ∧ i = .int .i64 k ∧ Arr wr g 3 (ints (upd (sh b) zs k)) ∧ w.grownBy wr (some g)) (fun i _ => n - (intOf i).toNat)
  case atStart => exact ⟨0, Nat.zero_le _, rfl, by rw [upd_zero]; exact hA, World.grownBy.refl _ _⟩
  case round =>
    obtain ⟨k, hk, rfl, hAr, hgr⟩ := hrel
    by_cases hlt : k < n
    · have hkz : k < zs.length := by have := HZ.out; omega
      have h1 := hAr.cell k _ (ints_get _ k (by rw [upd_length]; exact hkz))
      rw [upd_get] at h1
      obtain ⟨x, hx⟩ : ∃ x, zs.getD k 0 = x := ⟨_, rfl⟩
      rw [hx] at h1
      have h2 := hAr.free k
      by_cases hp : 0 ≤ x
      · have HS : Hid (Arr (wr.setCell ⟨g, k, none⟩ (.int .i64 (wrap64 (x + b)))) g 3 (ints (upd (sh b) zs (k + 1)))) := by
          have e := upd_succ (sh b) zs k hkz
          rw [hx, sh_pos hp] at e
          rw [e, ← ints_set]
          exact hAr.set k _
        clear hx hkz
        go_wp2
        go_roundw
        case rel => exact ⟨k + 1, by omega, by go_num, HS.out, grown_trans hgr (grown_setCell _ _ _ _)⟩
        case measure => simp [intOf]; omega
      · have HS : Hid (upd (sh b) zs (k + 1) = upd (sh b) zs k) := upd_keep (sh b) zs k hkz (by rw [hx]; exact sh_neg hp)
        clear hx hkz
        go_wp2
        go_roundw
        case rel => exact ⟨k + 1, by omega, by go_num, by rw [HS.out]; exact hAr, hgr⟩
        case measure => simp [intOf]; omega
    · obtain rfl : k = n := by omega
      go_wp2
      go_ret
      exact ⟨rfl, by rw [← upd_full (sh b) zs k (by rw [HZ.out]; exact Nat.le_refl _)]; exact hAr, hgr⟩

set_option maxHeartbeats 400000 in
theorem zzshift_nil (b : Int) (w : World) : Calls Try.prog 10 #[.slice none 0 0, .int .i64 b] w fun e w' => e = .returned (.slice none 0 0) ∧ w = w' := by
  go_enter Try.func10, Try.ntmps10
  go_wp2_with (go_at_call 19; refine (shift_nil _ _).mono ?_; rintro e w' ⟨rfl, rfl⟩)
  go_ret
  exact ⟨rfl, rfl⟩

set_option maxHeartbeats 400000 in
theorem zzshift_some (g n : Nat) (zs : List Int) (b : Int) (w : World) (hn : (n : Int) ≤ 1048576) (hz : zs.length = n) (hA : Arr w g 3 (ints zs)) :
    Calls Try.prog 10 #[.slice (some ⟨g, 0, none⟩) n n, .int .i64 b] w fun e w' => e = .returned (.slice (some ⟨g, 0, none⟩) n n) ∧ Arr w' g 3 (ints (zs.map (sh b))) ∧ w.grownBy w' (some g) := by
  have HZ : Hid (zs.length = n) := hz
  clear hz
  go_enter Try.func10, Try.ntmps10
  go_wp2_with (go_at_call 19; refine (shift_some _ _ zs _ _ hn HZ.out hA).mono ?_; rintro e w' ⟨rfl, h1, h2⟩)
  go_ret
  exact ⟨rfl, by assumption, by assumption⟩

set_option maxHeartbeats 400000 in
theorem same_nil (w : World) : Calls Try.prog 11 #[.slice none 0 0, .slice none 0 0] w fun e w' => e = .returned (.bool true) ∧ w = w' := by
  have hnil := eql_nil
  go_enter Try.func11, Try.ntmps11
  go_wp2
  refine wp_loop_rounds 1 ?_
  rw [rounds_succ]
  go_wp2
  go_ret
  exact ⟨rfl, rfl⟩

set_option maxHeartbeats 400000 in
theorem same_some (g h n : Nat) (zs : List Int) (w : World) (hn : (n : Int) ≤ 1048576) (hz : zs.length = n) (hA : Arr w g 3 (ints zs)) (hB : Arr w h 3 (ints zs)) :
    Calls Try.prog 11 #[.slice (some ⟨g, 0, none⟩) n n, .slice (some ⟨h, 0, none⟩) n n] w fun e w' => e = .returned (.bool true) ∧ Below w.heap.size w w' := by
  have HZ : Hid (zs.length = n) := hz
  have hnil := eql_nil
  clear hz
  go_enter Try.func11, Try.ntmps11
  go_wp2
  go_loopw [5] (fun i wr => ∃ k : Nat, k ≤ n ∧ i = .int .i64 k ∧ Below w.heap.size w wr) (fun i _ => n - (intOf i).toNat)
  case atStart => exact ⟨0, Nat.zero_le _, rfl, Below.refl _ _⟩
  case round =>
    obtain ⟨k, hk, rfl, hBr⟩ := hrel
    by_cases hlt : k < n
    · have hkz : k < zs.length := by have := HZ.out; omega
      have h1 := (hA.below hBr hA.lt).cell k _ (ints_get _ k hkz)
      have h2 := (hB.below hBr hB.lt).cell k _ (ints_get _ k hkz)
      obtain ⟨x, hx⟩ : ∃ x, zs.getD k 0 = x := ⟨_, rfl⟩
      rw [hx] at h1 h2
      have hl1 : (k : Int) < (n : Int) := by omega
      clear hx hkz
      go_wp2
      go_quiet (fail)
      go_wp2
      go_roundw
      case rel => exact ⟨k + 1, by omega, by go_num, below_drewN hBr _⟩
      case measure => simp [intOf]; omega
    · obtain rfl : k = n := by omega
      go_wp2
      go_ret
      exact ⟨rfl, hBr⟩

set_option maxHeartbeats 400000 in
theorem zzbytes8_yes (a : Option Addr) (n c : Nat) (b : Int) (w : World) (h : (n : Int) ≤ 1048576) :
    Calls Try.prog 8 #[.slice a n c, .int .i64 b] w fun e w' => e = .returned (.bool true) ∧ w = w' := by
  go_enter Try.func8, Try.ntmps8
  go_wp2
  go_ret
  exact ⟨rfl, rfl⟩

set_option maxHeartbeats 400000 in
theorem zzbytes8_no (a : Option Addr) (n c : Nat) (b : Int) (w : World) (hm : n ≤ maxLen) (h : (1048576 : Int) < (n : Int)) :
    Calls Try.prog 8 #[.slice a n c, .int .i64 b] w fun e w' => e = .returned (.bool false) ∧ w = w' := by
  unfold maxLen at hm
  go_enter Try.func8, Try.ntmps8
  go_wp2
  go_ret
  exact ⟨rfl, rfl⟩

end Go.Proofs.Qxb6602730a
