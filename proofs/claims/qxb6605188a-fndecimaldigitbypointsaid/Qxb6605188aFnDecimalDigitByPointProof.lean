import Derived.Test.Qxb6605188aDigit
import Derived.ProofKit
import Derived.OpenShut
import Derived.ShutString
namespace Go.Proofs.Qxb6605188a.fnDecimalDigitByPoint
open Go.ChangeShapes Go.WideShapes Go.ChangeAt Go.RowKit
open Go.ChangeMaps (open_string shut_string)
set_option linter.unusedVariables false      -- a walk need not use every 'w<i>' (that an integer argument fits its kind)

theorem own : ownKnob Try.prog.godebug = none := by kernel_rfl

theorem byteI_append (a b : ByteArray) (i : Nat) : byteI (a ++ b) i = if i < a.size then byteI a i else byteI b (i - a.size) := by
  unfold byteI
  have e : (a ++ b).data.toList = a.data.toList ++ b.data.toList := by simp
  rw [e, List.getD_eq_getElem?_getD, List.getD_eq_getElem?_getD, List.getD_eq_getElem?_getD, List.getElem?_append]
  have es : a.data.toList.length = a.size := by simp
  rw [es]
  split <;> rfl

theorem wrap_byte (x : Int) (h0 : 0 ≤ x) (h1 : x < 256) : (wrap64 (wrap64 (wrap64 x + 256) - 48)).tmod 256 = (x - 48) % 256 := by
  rw [IntWalk.wrap64_in x (by omega), IntWalk.wrap64_in (x + 256) (by omega), IntWalk.wrap64_in (x + 256 - 48) (by omega), Int.tmod_eq_emod_of_nonneg (by omega)]
  omega

theorem plain_in (a b : ByteArray) (p : Int) (h1 : -(a.size : Int) ≤ p) (h2 : p < (b.size : Int)) :
    digF a b p = (byteI (a ++ b) ((a.size : Int) + p).toNat - 48) % 256 := by
  rw [byteI_append]
  unfold digF
  by_cases hp : p < 0
  · rw [if_pos hp, if_pos (by omega), if_pos (by omega)]
  · rw [if_neg hp, if_pos h2, if_neg (by omega)]
    congr 3
    omega

theorem plain_out (a b : ByteArray) (p : Int) (h : ¬ (-(a.size : Int) ≤ p ∧ p < (b.size : Int))) : digF a b p = 0 := by
  unfold digF
  by_cases hp : p < 0
  · rw [if_pos hp, if_neg (by omega)]
  · rw [if_neg hp, if_neg (by omega)]

set_option maxHeartbeats 400000 in
theorem walk_in (a0 : ByteArray) (a1 : ByteArray) (a2 : Int) (hs : (a0.size : Int) + (a1.size : Int) ≤ 1048576) (hlo : -9223372036854775808 ≤ a2) (hhi : a2 ≤ 9223372036854775807) (h1 : -(a0.size : Int) ≤ a2) (h2 : a2 < (a1.size : Int)) (w : World) :
    Calls Try.prog 4 #[.string a0, .string a1, .int .i64 a2] w fun e w' => e = .returned (.bool true) ∧ Below w.heap.size w w' := by
  go_enter Try.func4, Try.ntmps4
  go_wp2_with (first | (go_at_call 11; refine (zzbytes11_yes _ _ _ _ hs).mono ?_; rintro e w' ⟨rfl, rfl⟩) | (go_at_call 12; refine (zzdigit_any _ _ _ _ hlo hhi (by omega) (by omega)).mono ?_; rintro e w' ⟨rfl, hb⟩))
  go_ret
  have hr := byteI_rng (a0 ++ a1) ((a0.size : Int) + a2).toNat
  exact ⟨ret_bool (by rw [byteI_get, wrap_byte _ hr.1 hr.2, plain_in a0 a1 a2 h1 h2]; exact beq_self_eq_true _), by assumption⟩

set_option maxHeartbeats 400000 in
theorem walk_lo (a0 : ByteArray) (a1 : ByteArray) (a2 : Int) (hs : (a0.size : Int) + (a1.size : Int) ≤ 1048576) (hlo : -9223372036854775808 ≤ a2) (hhi : a2 ≤ 9223372036854775807) (h1 : a2 < -(a0.size : Int)) (w : World) :
    Calls Try.prog 4 #[.string a0, .string a1, .int .i64 a2] w fun e w' => e = .returned (.bool true) ∧ Below w.heap.size w w' := by
  go_enter Try.func4, Try.ntmps4
  go_wp2_with (first | (go_at_call 11; refine (zzbytes11_yes _ _ _ _ hs).mono ?_; rintro e w' ⟨rfl, rfl⟩) | (go_at_call 12; refine (zzdigit_any _ _ _ _ hlo hhi (by omega) (by omega)).mono ?_; rintro e w' ⟨rfl, hb⟩))
  go_ret
  exact ⟨ret_bool (by rw [plain_out a0 a1 a2 (by omega)]; rfl), by assumption⟩

set_option maxHeartbeats 400000 in
theorem walk_hi (a0 : ByteArray) (a1 : ByteArray) (a2 : Int) (hs : (a0.size : Int) + (a1.size : Int) ≤ 1048576) (hlo : -9223372036854775808 ≤ a2) (hhi : a2 ≤ 9223372036854775807) (h1 : -(a0.size : Int) ≤ a2) (h2 : (a1.size : Int) ≤ a2) (w : World) :
    Calls Try.prog 4 #[.string a0, .string a1, .int .i64 a2] w fun e w' => e = .returned (.bool true) ∧ Below w.heap.size w w' := by
  go_enter Try.func4, Try.ntmps4
  go_wp2_with (first | (go_at_call 11; refine (zzbytes11_yes _ _ _ _ hs).mono ?_; rintro e w' ⟨rfl, rfl⟩) | (go_at_call 12; refine (zzdigit_any _ _ _ _ hlo hhi (by omega) (by omega)).mono ?_; rintro e w' ⟨rfl, hb⟩))
  go_ret
  exact ⟨ret_bool (by rw [plain_out a0 a1 a2 (by omega)]; rfl), by assumption⟩

set_option maxHeartbeats 400000 in
theorem walk_no (a0 : ByteArray) (a1 : ByteArray) (a2 : Int) (w0 : a0.size ≤ maxLen) (w1 : a1.size ≤ maxLen) (hs : ¬ (a0.size : Int) + (a1.size : Int) ≤ 1048576) (w : World) :
    Calls Try.prog 4 #[.string a0, .string a1, .int .i64 a2] w fun e w' => e = .returned (.bool true) ∧ Below w.heap.size w w' := by
  go_enter Try.func4, Try.ntmps4
  go_wp2_with (go_at_call 11; refine (zzbytes11_no _ _ _ _ w0 w1 hs).mono ?_; rintro e w' ⟨rfl, rfl⟩)
  go_ret
  exact ⟨rfl, Below.refl _ _⟩

theorem walk (a0 : ByteArray) (a1 : ByteArray) (a2 : Int) (w0 : a0.size ≤ maxLen) (w1 : a1.size ≤ maxLen) (w2 : (Lit.int .i64 a2).wf = true) (w : World) :
    Calls Try.prog 4 #[.string a0, .string a1, .int .i64 a2] w fun e w' => e = .returned (.bool true) ∧ Below w.heap.size w w' := by
  have hb := bounds_i64 w2
  by_cases hs : (a0.size : Int) + (a1.size : Int) ≤ 1048576
  · by_cases h1 : -(a0.size : Int) ≤ a2
    · by_cases h2 : a2 < (a1.size : Int)
      · exact walk_in a0 a1 a2 hs hb.1 hb.2 h1 h2 w
      · exact walk_hi a0 a1 a2 hs hb.1 hb.2 h1 (by omega) w
    · exact walk_lo a0 a1 a2 hs hb.1 hb.2 (by omega) w
  · exact walk_no a0 a1 a2 w0 w1 hs w

/-! ### THE ROW's STEP: WRITTEN OUT: LEAVE IT -/
set_option maxRecDepth 100000 in
theorem lifted (os : Os) (started : os.Started) (H : Type) (enc : TypeId × Value → H) :
    ReturnsInHanded {} Try.checked os 4 .any (Rows.fnDecimalDigitByPointSpec.pre6 enc Try.prog Try.f4 Rows.fnDecimalDigitByPointRow.domain false) (Rows.fnDecimalDigitByPointSpec.post enc Try.prog Try.f4 false true false false) := by
  refine returnsInHanded_of_change (C := Try.checked) own started (by kernel_rfl) Try.func4
    (ChangeSpec.witness6 (enc := enc) (C := Try.checked) false ⟨#[], #[.string ByteArray.empty, .string ByteArray.empty, .int .i64 0], []⟩ 8 (by kernel_rfl) (by kernel_rfl) (by kernel_rfl) (by kernel_rfl)) ?_
  intro W base args ds gs before hval0 hW hcnd _
  have hval : ∀ (j : Nat) t v, Try.f4.params[j]? = some t → args[j]? = some v → Value.okWide Try.prog W .any base t v := hval0
  have hW' := hW
  obtain ⟨p, q, hA0, hV, rfl, hfz, hnd⟩ := hW
  have hA : DataW.TrodAll enc Try.prog W 0 (fun _ => true) true Try.f4.params.toList args.toList ds p := hA0
  rw [Try.params4] at hA hval
  obtain ⟨v0, vs0, d0, ds0, p0, q0, hargs, rfl, rfl, h0, r0⟩ := trodAll_cons hA
  obtain ⟨v1, vs1, d1, ds1, p1, q1, rfl, rfl, rfl, h1, r1⟩ := trodAll_cons r0
  obtain ⟨v2, vs2, d2, ds2, p2, q2, rfl, rfl, rfl, h2, r2⟩ := trodAll_cons r1
  obtain ⟨rfl, rfl, rfl⟩ := trodAll_nil r2
  obtain rfl : args = #[v0, v1, v2] := by cases args; simp_all
  obtain ⟨rfl, rfl⟩ := trodVars_none hV
  obtain ⟨a0, rfl, rfl, rfl, w0⟩ := open_string Try.underlying9 (hval 0 9 v0 rfl rfl) h0
  obtain ⟨a1, rfl, rfl, rfl, w1⟩ := open_string Try.underlying9 (hval 1 9 v1 rfl rfl) h1
  obtain ⟨a2, rfl, rfl, rfl, w2⟩ := open_int Try.underlying3 (hval 2 3 v2 rfl rfl) h2
  clear hA0 hval0
  simp only [List.append_nil] at hW'
  refine (walk a0 a1 a2 w0 w1 w2 W).mono fun e W' ⟨he, hg⟩ => ?_
  subst he
  exact ⟨_, rfl, _, _, _, [], [], [], hW', trodAll_mk1 (shut_bool Try.underlying4 _), (trodAll_cons_mk (shut_string Try.underlying9 w0) (trodAll_cons_mk (shut_string Try.underlying9 w1) (trodAll_cons_mk (shut_int Try.underlying3 w2) trodAll_mk0))), rfl, hg.frame _, fun h => by cases h⟩

theorem over : Rows.fnDecimalDigitByPointRow.holds Try.pinned (OpenSpec.ofChange Rows.fnDecimalDigitByPointSpec) :=
  OpenClaim.holds_of_wide 4 Try.f4 rfl rfl rfl rfl rfl rfl rfl ⟨rfl, rfl, rfl, rfl, rfl⟩ rfl rfl rfl rfl rfl (by kernel_rfl) Try.func4 (by kernel_rfl)
    (of_decide_eq_true (by kernel_rfl)) (by unfold Func.isWrapper; first | (rw [if_pos (by decide +kernel)]; kernel_rfl) | (rw [if_neg (by decide +kernel)]; exact ⟨rfl, rfl⟩))
    (fun os started H enc _ => lifted os started H enc)

/-- ████ THE STATEMENT ████ -/
theorem proved : Rows.FnDecimalDigitByPointSaid :=
  over
#print axioms proved
end Go.Proofs.Qxb6605188a.fnDecimalDigitByPoint
