import Derived.Test.Qxb6605188aWords
import Derived.ProofKit
import Derived.OpenShut
import Derived.ShutString
namespace Go.Proofs.Qxb6605188a.fnPricesStringByBytes
open Go.ChangeShapes Go.WideShapes Go.ChangeAt Go.RowKit
open Go.ChangeMaps (open_string shut_string)
set_option linter.unusedVariables false      -- a walk need not use every 'w<i>' (that an integer argument fits its kind)

theorem own : ownKnob Try.prog.godebug = none := by kernel_rfl

/-! ### STEP 1: THE WALK -/
set_option maxHeartbeats 400000 in
theorem zzbytes14_yes (a : ByteArray) (w : World) (h : (a.size : Int) ≤ 1048576) :
    Calls Try.prog 14 #[.string a] w fun e w' => e = .returned (.bool true) ∧ w = w' := by
  go_enter Try.func14, Try.ntmps14
  go_wp2
  go_ret
  exact ⟨rfl, rfl⟩

set_option maxHeartbeats 400000 in
theorem zzbytes14_no (a : ByteArray) (w : World) (ha : a.size ≤ maxLen) (h : (1048576 : Int) < (a.size : Int)) :
    Calls Try.prog 14 #[.string a] w fun e w' => e = .returned (.bool false) ∧ w = w' := by
  unfold maxLen at ha
  go_enter Try.func14, Try.ntmps14
  go_wp2
  go_ret
  exact ⟨rfl, rfl⟩

set_option maxHeartbeats 400000 in
theorem walk_no (a0 : ByteArray) (w0 : a0.size ≤ maxLen) (hs : (1048576 : Int) < (a0.size : Int)) (w : World) :
    Calls Try.prog 6 #[.string a0] w fun e w' => e = .returned (.bool true) ∧ Below w.heap.size w w' := by
  go_enter Try.func6, Try.ntmps6
  go_wp2_with (go_at_call 14; refine (zzbytes14_no _ _ w0 hs).mono ?_; rintro e w' ⟨rfl, rfl⟩)
  go_ret
  exact ⟨rfl, Below.refl _ _⟩

theorem string_t (s t : ByteArray) (w : World) (H : Hid ((⟨(pstr s.data.toList).toArray⟩ : ByteArray) = t)) (hs : (s.size : Int) ≤ 1048576) :
    Calls Try.prog 16 #[.agg #[.string s]] w fun e w' => e = .returned (.string t) ∧ Below w.heap.size w w' := by
  rw [← H.out]
  exact string_any s w hs

set_option maxHeartbeats 1000000 in
theorem walk_yes (a0 : ByteArray) (hs : (a0.size : Int) ≤ 1048576) (w : World) :
    Calls Try.prog 6 #[.string a0] w fun e w' => e = .returned (.bool true) ∧ Below w.heap.size w w' := by
  obtain ⟨i0, hi, hz0, hz1, hz2⟩ := info_parts Try.info5
  obtain ⟨t, ht⟩ : ∃ t, (⟨(pstr a0.data.toList).toArray⟩ : ByteArray) = t := ⟨_, rfl⟩
  have HT : Hid ((⟨(pstr a0.data.toList).toArray⟩ : ByteArray) = t) := ht
  have hF : pstr a0.data.toList = 91 :: wbody a0.data.toList (a0.size / 8 * 8) ++ [93] := by
    unfold pstr
    have e : a0.data.toList.length = a0.size := by simp
    rw [e, show a0.size / 8 * 8 = 8 * (a0.size / 8) from by omega, wbody_eq _ _ (by rw [e]; omega)]
  have HF : Hid ((⟨(91 :: wbody a0.data.toList (a0.size / 8 * 8) ++ [93]).toArray⟩ : ByteArray) = t) := by rw [← hF]; exact ht
  clear hF ht
  go_enter Try.func6, Try.ntmps6
  go_wp2_with (first | (go_at_call 14; refine (zzbytes14_yes _ _ hs).mono ?_; rintro e w' ⟨rfl, rfl⟩) | (go_at_call 15; refine (newPrices_any _ _).mono ?_; rintro e w1 ⟨rfl, hb1⟩) | (go_at_call 16; refine (string_t _ t _ HT hs).mono ?_; rintro e w2 ⟨rfl, hb2⟩) | (at_make; refine wpList_make_own _ rfl _ _ 27 rfl w.heap.size 5 i0 (.int .u8 0) 1 Try.underlying27 hi hz0 hz1 _ _ _ (a0.size + a0.size / 8 + 2) rfl rfl (by omega) ?b2 ?b3 ?b4 ?_))
  case b2 => rw [hz2]; omega
  case b3 => unfold maxLen; omega
  case b4 => have h1 := hb1.size; have h2 := hb2.size; omega
  have hB2 := hb1.trans (hb2.mono hb1.size)
  have hz := hB2.size
  clear hb1 hb2
  intro w3 hown3 hgrow3
  have hB3 := hB2.grown hgrow3 hz (fun k h => by cases h)
  have hz3 := hgrow3.size
  obtain ⟨g, hg⟩ : ∃ g, w2.heap.size = g := ⟨_, rfl⟩
  clear hgrow3
  rw [hg] at hown3 hz hz3 ⊢
  clear hg hB2
  go_wp2_with (at_builtin; refine wpList_append_fits _ rfl (.tmp 28) (.tmp 29) 27 rfl w.heap.size 5 i0 1 Try.underlying27 hi hz1 g 0 (a0.size + a0.size / 8 + 2) _ rfl (hown3.alloc _) ⟨w3.heap.size, 0, none⟩ 1 1 [.int .u8 91] rfl rfl one_news (one_cell1 rfl) (by omega) ?_; intro w4 hown4 hgrow4; have hB4 := below_step hB3 (by omega) hgrow4 hz)
  clear hown3 hB3 hgrow4
  have hlen : a0.data.toList.length = a0.size := by simp
  have HLen : Hid (a0.data.toList.length = a0.size) := hlen
  clear hlen
  go_loopw [5, 6] (fun v i wr => ∃ j L : Nat, j ≤ a0.size / 8 * 8 ∧ i = .int .i64 j ∧ v = .slice (some ⟨g, 0, none⟩) L (a0.size + a0.size / 8 + 2) ∧ L ≤ 1 + j + (j - 1) / 8 ∧ wr.ownsRow w.heap.size 5 1 (.slice (some ⟨g, 0, none⟩) L (a0.size + a0.size / 8 + 2)) L (cellsB (91 :: wbody a0.data.toList j)) ∧ Below w.heap.size w wr) (fun _ i _ => a0.size - (intOf i).toNat)
  case atStart => exact ⟨0, 1, Nat.zero_le _, rfl, rfl, by omega, hown4, hB4⟩
  case round =>
    obtain ⟨j, L, hj, rfl, rfl, hL, hown, hB⟩ := hrel
    have hzr := hB.size
    by_cases hlt : j < a0.size / 8 * 8
    · have hjs : j < a0.size := by omega
      have HB : Hid ((a0[j].toNat : Int) = ((a0.data.toList.getD j 0).toNat : Int)) := byteI_get a0 j hjs
      by_cases hsp : 0 < j ∧ j % 8 = 0
      · have HSP : Hid (0 < j ∧ j % 8 = 0) := hsp
        have h1 : (0 : Int) < (j : Int) := by omega
        have h2 : ((j : Int) % 8 == 0) = true := beq_iff_eq.2 (by omega)
        have h3 : L + 2 ≤ 1 + (j + 1) + j / 8 := by omega
        clear hsp
        go_wp2_with (first | (at_builtin; refine wpList_append_fits _ rfl (.tmp 43) (.tmp 44) 27 rfl w.heap.size 5 i0 1 Try.underlying27 hi hz1 g L (a0.size + a0.size / 8 + 2) _ rfl (hown.alloc _) ⟨wr.heap.size, 0, none⟩ 1 1 [.int .u8 32] rfl rfl one_news (one_cell1 rfl) (by omega) ?_; intro w5 hown5 hgrow5; have hz5 := hgrow5.size) | (at_builtin; refine wpList_append_fits _ rfl (.tmp 46) (.tmp 50) 27 rfl w.heap.size 5 i0 1 Try.underlying27 hi hz1 g (L + 1) (a0.size + a0.size / 8 + 2) _ rfl (hown5.alloc _) ⟨w5.heap.size, 0, none⟩ 1 1 [.int .u8 (a0[j].toNat : Int)] rfl rfl one_news (one_cell1 rfl) (by omega) ?_; intro w6 hown6 hgrow6))
        simp at hz5
        go_roundw
        case rel => exact ⟨j + 1, L + 1 + 1, by omega, by go_num, rfl, by simp; omega, by rw [wcells_blank HSP.out HB.out]; exact hown6, below_step (below_step hB hzr hgrow5 hz) (by omega) hgrow6 hz⟩
        case measure => simp [intOf]; omega
      · have HSP : Hid (¬ (0 < j ∧ j % 8 = 0)) := hsp
        have h3 : L + 1 ≤ 1 + (j + 1) + j / 8 := by omega
        by_cases hj0 : j = 0
        · subst hj0
          clear hsp
          go_wp2_with (at_builtin; refine wpList_append_fits _ rfl (.tmp 46) (.tmp 50) 27 rfl w.heap.size 5 i0 1 Try.underlying27 hi hz1 g L (a0.size + a0.size / 8 + 2) _ rfl (hown.alloc _) ⟨wr.heap.size, 0, none⟩ 1 1 [.int .u8 (a0[0].toNat : Int)] rfl rfl one_news (one_cell1 rfl) (by omega) ?_; intro w6 hown6 hgrow6)
          go_roundw
          case rel => exact ⟨0 + 1, L + 1, by omega, by go_num, rfl, by simp; omega, by rw [wcells_none HSP.out HB.out]; exact hown6, below_step hB hzr hgrow6 hz⟩
          case measure => simp [intOf]; omega
        · have h1 : (0 : Int) < (j : Int) := by omega
          have h2 : ((j : Int) % 8 == 0) = false := beq_eq_false_iff_ne.2 (by omega)
          clear hsp
          go_wp2_with (at_builtin; refine wpList_append_fits _ rfl (.tmp 46) (.tmp 50) 27 rfl w.heap.size 5 i0 1 Try.underlying27 hi hz1 g L (a0.size + a0.size / 8 + 2) _ rfl (hown.alloc _) ⟨wr.heap.size, 0, none⟩ 1 1 [.int .u8 (a0[j].toNat : Int)] rfl rfl one_news (one_cell1 rfl) (by omega) ?_; intro w6 hown6 hgrow6)
          go_roundw
          case rel => exact ⟨j + 1, L + 1, by omega, by go_num, rfl, by simp; omega, by rw [wcells_none HSP.out HB.out]; exact hown6, below_step hB hzr hgrow6 hz⟩
          case measure => simp [intOf]; omega
    · obtain rfl : j = a0.size / 8 * 8 := by omega
      go_wp2_with (at_builtin; refine wpList_append_fits _ rfl (.tmp 52) (.tmp 53) 27 rfl w.heap.size 5 i0 1 Try.underlying27 hi hz1 g L (a0.size + a0.size / 8 + 2) _ rfl (hown.alloc _) ⟨wr.heap.size, 0, none⟩ 1 1 [.int .u8 93] rfl rfl one_news (one_cell1 rfl) (by omega) ?_; intro w5 hown5 hgrow5; rw [← wcells_end] at hown5; have hcv := conv_owned hown5; rw [HF.out] at hcv)
      go_ret
      exact ⟨rfl, below_step hB hzr hgrow5 hz⟩

theorem walk (a0 : ByteArray) (w0 : a0.size ≤ maxLen) (w : World) :
    Calls Try.prog 6 #[.string a0] w fun e w' => e = .returned (.bool true) ∧ Below w.heap.size w w' := by
  by_cases hs : (a0.size : Int) ≤ 1048576
  · exact walk_yes a0 hs w
  · exact walk_no a0 w0 (by omega) w

/-! ### THE ROW's STEP: WRITTEN OUT: LEAVE IT -/
set_option maxRecDepth 100000 in
theorem lifted (os : Os) (started : os.Started) (H : Type) (enc : TypeId × Value → H) :
    ReturnsInHanded {} Try.checked os 6 .any (Rows.fnPricesStringByBytesSpec.pre6 enc Try.prog Try.f6 Rows.fnPricesStringByBytesRow.domain false) (Rows.fnPricesStringByBytesSpec.post enc Try.prog Try.f6 false true false false) := by
  refine returnsInHanded_of_change (C := Try.checked) own started (by kernel_rfl) Try.func6
    (ChangeSpec.witness6 (enc := enc) (C := Try.checked) false ⟨#[], #[.string ByteArray.empty], []⟩ 8 (by kernel_rfl) (by kernel_rfl) (by kernel_rfl) (by kernel_rfl)) ?_
  intro W base args ds gs before hval0 hW hcnd _
  have hval : ∀ (j : Nat) t v, Try.f6.params[j]? = some t → args[j]? = some v → Value.okWide Try.prog W .any base t v := hval0
  have hW' := hW
  obtain ⟨p, q, hA0, hV, rfl, hfz, hnd⟩ := hW
  have hA : DataW.TrodAll enc Try.prog W 0 (fun _ => true) true Try.f6.params.toList args.toList ds p := hA0
  rw [Try.params6] at hA hval
  obtain ⟨v0, vs0, d0, ds0, p0, q0, hargs, rfl, rfl, h0, r0⟩ := trodAll_cons hA
  obtain ⟨rfl, rfl, rfl⟩ := trodAll_nil r0
  obtain rfl : args = #[v0] := by cases args; simp_all
  obtain ⟨rfl, rfl⟩ := trodVars_none hV
  obtain ⟨a0, rfl, rfl, rfl, w0⟩ := open_string Try.underlying9 (hval 0 9 v0 rfl rfl) h0
  clear hA0 hval0
  simp only [List.append_nil] at hW'
  refine (walk a0 w0 W).mono fun e W' ⟨he, hg⟩ => ?_
  subst he
  exact ⟨_, rfl, _, _, _, [], [], [], hW', trodAll_mk1 (shut_bool Try.underlying4 _), (trodAll_cons_mk (shut_string Try.underlying9 w0) trodAll_mk0), rfl, hg.frame _, fun h => by cases h⟩

theorem over : Rows.fnPricesStringByBytesRow.holds Try.pinned (OpenSpec.ofChange Rows.fnPricesStringByBytesSpec) :=
  OpenClaim.holds_of_wide 6 Try.f6 rfl rfl rfl rfl rfl rfl rfl ⟨rfl, rfl, rfl, rfl, rfl⟩ rfl rfl rfl rfl rfl (by kernel_rfl) Try.func6 (by kernel_rfl)
    (of_decide_eq_true (by kernel_rfl)) (by unfold Func.isWrapper; first | (rw [if_pos (by decide +kernel)]; kernel_rfl) | (rw [if_neg (by decide +kernel)]; exact ⟨rfl, rfl⟩))
    (fun os started H enc _ => lifted os started H enc)

/-- ████ THE STATEMENT ████ -/
theorem proved : Rows.FnPricesStringByBytesSaid :=
  over
#print axioms proved
end Go.Proofs.Qxb6605188a.fnPricesStringByBytes
