import Derived.Test.Qxb6605188aIsDigits
import Derived.ProofKit
import Derived.OpenShut
import Derived.ShutString
namespace Go.Proofs.Qxb6605188a.fnIsDigitsByTable
open Go.ChangeShapes Go.WideShapes Go.ChangeAt Go.RowKit
open Go.ChangeMaps (open_string shut_string)
set_option linter.unusedVariables false      -- a walk need not use every 'w<i>' (that an integer argument fits its kind)

theorem own : ownKnob Try.prog.godebug = none := by kernel_rfl

/-! ### STEP 1: THE WALK -/
theorem not_ff (b : Bool) (h : b = false) : (!b) = true := by rw [h]; rfl

set_option maxHeartbeats 400000 in
theorem walk_no (a0 : ByteArray) (w0 : a0.size ≤ maxLen) (hs : (1048576 : Int) < (a0.size : Int)) (w : World) :
    Calls Try.prog 3 #[.string a0] w fun e w' => e = .returned (.bool true) ∧ Below w.heap.size w w' := by
  go_enter Try.func3, Try.ntmps3
  go_wp2_with (go_at_call 8; refine (zzbytes8_no _ _ w0 hs).mono ?_; rintro e w' ⟨rfl, rfl⟩)
  go_ret
  exact ⟨rfl, Below.refl _ _⟩

set_option maxHeartbeats 400000 in
theorem walk_empty (a0 : ByteArray) (h0 : a0.size = 0) (w : World) :
    Calls Try.prog 3 #[.string a0] w fun e w' => e = .returned (.bool true) ∧ Below w.heap.size w w' := by
  have hs : (a0.size : Int) ≤ 1048576 := by omega
  have HD : Hid (isDigB a0 = false) := isDigB_empty h0
  go_enter Try.func3, Try.ntmps3
  go_wp2_with (first | (go_at_call 8; refine (zzbytes8_yes _ _ hs).mono ?_; rintro e w' ⟨rfl, rfl⟩) | (go_at_call 9; refine (zzisDigits_any _ hs _).mono ?_; rintro e w' ⟨rfl, rfl⟩))
  refine wp_loop_rounds 1 ?_
  rw [rounds_succ]
  go_wp2_with fail
  go_ret
  exact ⟨ret_bool (not_ff _ HD.out), Below.refl _ _⟩

set_option maxHeartbeats 400000 in
theorem walk_some (a0 : ByteArray) (h0 : (0 : Int) < (a0.size : Int)) (hs : (a0.size : Int) ≤ 1048576) (w : World) :
    Calls Try.prog 3 #[.string a0] w fun e w' => e = .returned (.bool true) ∧ Below w.heap.size w w' := by
  go_enter Try.func3, Try.ntmps3
  go_wp2_with (first | (go_at_call 8; refine (zzbytes8_yes _ _ hs).mono ?_; rintro e w' ⟨rfl, rfl⟩) | (go_at_call 9; refine (zzisDigits_any _ hs _).mono ?_; rintro e w' ⟨rfl, rfl⟩))
  go_loop [4, 5] (fun t i => ∃ k : Nat, k ≤ a0.size ∧ i = .int .i64 ((k : Int) - 1) ∧ t = .bool true ∧ ∀ j, k ≤ j → j < a0.size → 48 ≤ byteI a0 j ∧ byteI a0 j ≤ 57) (fun _ i => (intOf i + 1).toNat)
  case atStart => exact ⟨a0.size, Nat.le_refl _, by go_num, by rw [decide_eq_true (by omega)], fun j h1 h2 => by omega⟩
  case round =>
    obtain ⟨k, hk, rfl, rfl, hd⟩ := hrel
    have HD : Hid (∀ j, k ≤ j → j < a0.size → 48 ≤ byteI a0 j ∧ byteI a0 j ≤ 57) := hd
    clear hd
    by_cases hk0 : k = 0
    · subst hk0
      have HT : Hid (isDigB a0 = true) := isDigB_yes (by omega) (fun i hi => HD.out i (by omega) hi)
      go_wp2
      go_ret
      exact ⟨ret_bool HT.out, Below.refl _ _⟩
    · obtain ⟨m, rfl⟩ : ∃ m, k = m + 1 := ⟨k - 1, by omega⟩
      have hm : m < a0.size := by omega
      have HB : Hid ((a0[m].toNat : Int) = byteI a0 m) := byteI_get a0 m hm
      have hr := byteI_rng a0 m
      rw [← HB.out] at hr
      by_cases hdig : 48 ≤ (a0[m].toNat : Int) ∧ (a0[m].toNat : Int) ≤ 57
      · have HI : Hid (inTab (a0[m].toNat : Int) = true) := inTab_yes hdig
        go_wp2_with (go_at_call 10; refine (tab_b _ true HI (by omega) (by omega) _).mono ?_; rintro e w' ⟨rfl, rfl⟩)
        go_round
        case rel => exact ⟨m, by omega, by go_num, rfl, fun j h1 h2 => by
          by_cases e : j = m
          · subst e; rw [← HB.out]; exact hdig
          · exact HD.out j (by omega) h2⟩
        case measure => simp [intOf]
      · have HI : Hid (inTab (a0[m].toNat : Int) = false) := inTab_no hdig
        have HT : Hid (isDigB a0 = false) := isDigB_no m hm (by rw [← HB.out]; exact hdig)
        clear hdig
        go_wp2_with (go_at_call 10; refine (tab_b _ false HI (by omega) (by omega) _).mono ?_; rintro e w' ⟨rfl, rfl⟩)
        go_ret
        exact ⟨ret_bool (not_ff _ HT.out), Below.refl _ _⟩

theorem walk (a0 : ByteArray) (w0 : a0.size ≤ maxLen) (w : World) :
    Calls Try.prog 3 #[.string a0] w fun e w' => e = .returned (.bool true) ∧ Below w.heap.size w w' := by
  by_cases hs : (a0.size : Int) ≤ 1048576
  · by_cases h0 : a0.size = 0
    · exact walk_empty a0 h0 w
    · exact walk_some a0 (by omega) hs w
  · exact walk_no a0 w0 (by omega) w

/-! ### THE ROW's STEP: WRITTEN OUT: LEAVE IT -/
set_option maxRecDepth 100000 in
theorem lifted (os : Os) (started : os.Started) (H : Type) (enc : TypeId × Value → H) :
    ReturnsInHanded {} Try.checked os 3 .any (Rows.fnIsDigitsByTableSpec.pre6 enc Try.prog Try.f3 Rows.fnIsDigitsByTableRow.domain false) (Rows.fnIsDigitsByTableSpec.post enc Try.prog Try.f3 false true false false) := by
  refine returnsInHanded_of_change (C := Try.checked) own started (by kernel_rfl) Try.func3
    (ChangeSpec.witness6 (enc := enc) (C := Try.checked) false ⟨#[], #[.string ByteArray.empty], []⟩ 8 (by kernel_rfl) (by kernel_rfl) (by kernel_rfl) (by kernel_rfl)) ?_
  intro W base args ds gs before hval0 hW hcnd _
  have hval : ∀ (j : Nat) t v, Try.f3.params[j]? = some t → args[j]? = some v → Value.okWide Try.prog W .any base t v := hval0
  have hW' := hW
  obtain ⟨p, q, hA0, hV, rfl, hfz, hnd⟩ := hW
  have hA : DataW.TrodAll enc Try.prog W 0 (fun _ => true) true Try.f3.params.toList args.toList ds p := hA0
  rw [Try.params3] at hA hval
  obtain ⟨v0, vs0, d0, ds0, p0, q0, hargs, rfl, rfl, h0, r0⟩ := trodAll_cons hA
  obtain ⟨rfl, rfl, rfl⟩ := trodAll_nil r0
  obtain rfl : args = #[v0] := by cases args; simp_all
  obtain ⟨rfl, rfl⟩ := trodVars_none hV
  obtain ⟨a0, rfl, rfl, rfl, w0⟩ := open_string Try.underlying9 (hval 0 9 v0 rfl rfl) h0
  clear hA0 hval0
  simp only [List.append_nil] at hW'
  refine (walk a0 w0 W).mono fun e W' ⟨he, hg⟩ => ?_
  subst he
  exact ⟨_, rfl, _, _, _, [], [], [], hW', trodAll_mk1 (shut_bool Try.underlying4 _), (trodAll_cons_mk (shut_string Try.underlying9 w0) trodAll_mk0), rfl, hg.frame _, fun h => by cases h⟩

theorem over : Rows.fnIsDigitsByTableRow.holds Try.pinned (OpenSpec.ofChange Rows.fnIsDigitsByTableSpec) :=
  OpenClaim.holds_of_wide 3 Try.f3 rfl rfl rfl rfl rfl rfl rfl ⟨rfl, rfl, rfl, rfl, rfl⟩ rfl rfl rfl rfl rfl (by kernel_rfl) Try.func3 (by kernel_rfl)
    (of_decide_eq_true (by kernel_rfl)) (by unfold Func.isWrapper; first | (rw [if_pos (by decide +kernel)]; kernel_rfl) | (rw [if_neg (by decide +kernel)]; exact ⟨rfl, rfl⟩))
    (fun os started H enc _ => lifted os started H enc)

/-- ████ THE STATEMENT ████ -/
theorem proved : Rows.FnIsDigitsByTableSaid :=
  over
#print axioms proved
end Go.Proofs.Qxb6605188a.fnIsDigitsByTable
