import Derived.Test.Qxb6605188aBytes
import Derived.Test.Qxb6605188aText
import Derived.ProofKit
import Derived.OpenShut
import Derived.ShutString
namespace Go.Proofs.Qxb6605188a.fnDecimalDigitsRebuildText
open Go.ChangeShapes Go.WideShapes Go.ChangeAt Go.RowKit
open Go.ChangeMaps (open_string shut_string)
set_option linter.unusedVariables false      -- a walk need not use every 'w<i>' (that an integer argument fits its kind)

theorem own : ownKnob Try.prog.godebug = none := by kernel_rfl

set_option maxHeartbeats 400000 in
theorem zzbytes13_yes (a b : ByteArray) (w : World) (h : (a.size : Int) + (b.size : Int) ≤ 1048576) :
    Calls Try.prog 13 #[.string a, .string b] w fun e w' => e = .returned (.bool true) ∧ w = w' := by
  go_enter Try.func13, Try.ntmps13
  go_wp2
  go_ret
  exact ⟨rfl, rfl⟩

set_option maxHeartbeats 400000 in
theorem zzbytes13_no (a b : ByteArray) (w : World) (ha : a.size ≤ maxLen) (hb : b.size ≤ maxLen) (h : ¬ (a.size : Int) + (b.size : Int) ≤ 1048576) :
    Calls Try.prog 13 #[.string a, .string b] w fun e w' => e = .returned (.bool false) ∧ w = w' := by
  unfold maxLen at ha hb
  by_cases h1 : (1048576 : Int) < (a.size : Int)
  · go_enter Try.func13, Try.ntmps13
    go_wp2
    go_ret
    exact ⟨rfl, rfl⟩
  · by_cases h2 : (1048576 : Int) < (b.size : Int)
    · go_enter Try.func13, Try.ntmps13
      go_wp2
      go_ret
      exact ⟨rfl, rfl⟩
    · go_enter Try.func13, Try.ntmps13
      go_wp2
      go_ret
      exact ⟨rfl, rfl⟩

theorem zzdigit_d (a b : ByteArray) (p d : Int) (w : World) (H : Hid (digF a b p = d)) (hlo : -9223372036854775808 ≤ p) (hhi : p ≤ 9223372036854775807) (hs : (a.size : Int) ≤ 1048576) (ht : (b.size : Int) ≤ 1048576) :
    Calls Try.prog 12 #[.string a, .string b, .int .i64 p] w fun e w' => e = .returned (.int .i64 d) ∧ Below w.heap.size w w' := by
  rw [← H.out]
  exact zzdigit_any a b p w hlo hhi hs ht

set_option maxHeartbeats 400000 in
theorem walk_no (a0 : ByteArray) (a1 : ByteArray) (w0 : a0.size ≤ maxLen) (w1 : a1.size ≤ maxLen) (hs : ¬ (a0.size : Int) + (a1.size : Int) ≤ 1048576) (w : World) :
    Calls Try.prog 5 #[.string a0, .string a1] w fun e w' => e = .returned (.bool true) ∧ Below w.heap.size w w' := by
  go_enter Try.func5, Try.ntmps5
  go_wp2_with (go_at_call 13; refine (zzbytes13_no _ _ _ w0 w1 hs).mono ?_; rintro e w' ⟨rfl, rfl⟩)
  go_ret
  exact ⟨rfl, Below.refl _ _⟩

set_option maxHeartbeats 800000 in
theorem walk_yes (a0 : ByteArray) (a1 : ByteArray) (hs : (a0.size : Int) + (a1.size : Int) ≤ 1048576) (w : World) :
    Calls Try.prog 5 #[.string a0, .string a1] w fun e w' => e = .returned (.bool true) ∧ Below w.heap.size w w' := by
  obtain ⟨i0, hi, hz0, hz1, hz2⟩ := info_parts Try.info5
  go_enter Try.func5, Try.ntmps5
  go_wp2_with (first | (go_at_call 13; refine (zzbytes13_yes _ _ _ hs).mono ?_; rintro e w' ⟨rfl, rfl⟩) | (at_make; refine wpList_make_own _ rfl _ _ 27 rfl w.heap.size 5 i0 (.int .u8 0) 1 Try.underlying27 hi hz0 hz1 _ _ _ (a0.size + a1.size) rfl rfl (by omega) ?b2 ?b3 (Nat.le_refl _) ?_))
  case b2 => rw [hz2]; omega
  case b3 => unfold maxLen; omega
  intro w0 hown0 hgrow0
  go_wp2
  have hT : (a0 ++ a1).data.toList.length = a0.size + a1.size := by simp
  go_loopw [5, 6] (fun v p wr => ∃ k : Nat, k ≤ a0.size + a1.size ∧ p = .int .i64 ((k : Int) - (a0.size : Int)) ∧ v = .slice (some ⟨w.heap.size, 0, none⟩) k (a0.size + a1.size) ∧ wr.ownsRow w.heap.size 5 1 (.slice (some ⟨w.heap.size, 0, none⟩) k (a0.size + a1.size)) k (cellsB ((a0 ++ a1).data.toList.take k)) ∧ Below w.heap.size w wr) (fun _ p _ => ((a1.size : Int) - intOf p).toNat)
  case atStart => exact ⟨0, Nat.zero_le _, by go_num, rfl, hown0, (Below.refl _ _).grown hgrow0 (Nat.le_refl _) (fun k h => by cases h)⟩
  case round =>
    obtain ⟨k, hk, rfl, rfl, hown, hbel⟩ := hrel
    by_cases hlt : k < a0.size + a1.size
    · obtain ⟨d, hd⟩ : ∃ d, digF a0 a1 ((k : Int) - (a0.size : Int)) = d := ⟨_, rfl⟩
      have hd2 : d = (byteI (a0 ++ a1) k - 48) % 256 := by rw [← hd, plain_in a0 a1 _ (by omega) (by omega)]; congr 3; omega
      have hr := byteI_rng (a0 ++ a1) k
      have hkT : k < (a0 ++ a1).data.toList.length := by omega
      have hd3 : (d + 48) % 256 = (((a0 ++ a1).data.toList[k]).toNat : Int) := by
        have e : byteI (a0 ++ a1) k = (((a0 ++ a1).data.toList[k]).toNat : Int) := by unfold byteI; rw [List.getD_eq_getElem?_getD, List.getElem?_eq_getElem hkT]; rfl
        rw [← e]; omega
      have hd0 : 0 ≤ d := by omega
      have hd1 : d < 256 := by omega
      have HD : Hid (digF a0 a1 ((k : Int) - (a0.size : Int)) = d) := hd
      have HS : Hid (cellsB ((a0 ++ a1).data.toList.take (k + 1)) = cellsB ((a0 ++ a1).data.toList.take k) ++ [.int .u8 ((d + 48) % 256)]) := cellsB_snoc _ k hkT _ hd3
      clear hd hd2 hd3 hr hkT
      have hwr := hbel.size
      go_wp2_with (first | (go_at_call 12; refine (zzdigit_d _ _ _ d _ HD (by omega) (by omega) (by omega) (by omega)).mono ?_; rintro e w1 ⟨rfl, hb1⟩; have hown1 := owns_below hown hb1; have hsz1 := hb1.size) | (at_builtin; refine wpList_append_fits _ rfl (.tmp 53) (.tmp 57) 27 rfl w.heap.size 5 i0 1 Try.underlying27 hi hz1 w.heap.size k (a0.size + a1.size) _ rfl (hown1.alloc _) ⟨w1.heap.size, 0, none⟩ 1 1 [.int .u8 ((d + 48) % 256)] rfl rfl (by intro t u ht; match t, ht with | 0, ht => simp at ht; subst ht; simp [Addr.add]) (by intro u hu; simp at hu; subst hu; rfl) (by omega) ?_; intro w2 hown2 hgrow2))
      go_roundw
      case rel => exact ⟨k + 1, by omega, by go_num, rfl, by rw [HS.out]; exact hown2, ((hbel.trans (hb1.mono hwr)).alloc (by omega) _).grown hgrow2 (by simp; omega) (fun k hk => by cases hk; exact Nat.le_refl _)⟩
      case measure => simp [intOf]; omega
    · have hk2 : k = a0.size + a1.size := by omega
      subst hk2
      have htk : (a0 ++ a1).data.toList.take (a0.size + a1.size) = (a0 ++ a1).data.toList := by rw [← hT, List.take_length]
      rw [htk] at hown
      have hcv := conv_owned hown
      rw [ba_list] at hcv
      have H1 : Hid (digF a0 a1 (-(a0.size : Int) - 1) = 0) := plain_out _ _ _ (by omega)
      have H2 : Hid (digF a0 a1 (a1.size : Int) = 0) := plain_out _ _ _ (by omega)
      clear htk hT hown hlt hk
      go_wp2_with fail
      refine (zzdigit_d _ _ _ 0 _ H1 (by omega) (by omega) (by omega) (by omega)).mono ?_
      rintro e w1 ⟨rfl, hb1⟩
      go_wp2_with fail
      refine (zzdigit_d _ _ _ 0 _ H2 (by omega) (by omega) (by omega) (by omega)).mono ?_
      rintro e w2 ⟨rfl, hb2⟩
      go_wp2_with fail
      go_ret
      exact ⟨rfl, (hbel.trans (hb1.mono hbel.size)).trans (hb2.mono (Nat.le_trans hbel.size hb1.size))⟩

theorem walk (a0 : ByteArray) (a1 : ByteArray) (w0 : a0.size ≤ maxLen) (w1 : a1.size ≤ maxLen) (w : World) :
    Calls Try.prog 5 #[.string a0, .string a1] w fun e w' => e = .returned (.bool true) ∧ Below w.heap.size w w' := by
  by_cases hs : (a0.size : Int) + (a1.size : Int) ≤ 1048576
  · exact walk_yes a0 a1 hs w
  · exact walk_no a0 a1 w0 w1 hs w

/-! ### THE ROW's STEP: WRITTEN OUT: LEAVE IT -/
set_option maxRecDepth 100000 in
theorem lifted (os : Os) (started : os.Started) (H : Type) (enc : TypeId × Value → H) :
    ReturnsInHanded {} Try.checked os 5 .any (Rows.fnDecimalDigitsRebuildTextSpec.pre6 enc Try.prog Try.f5 Rows.fnDecimalDigitsRebuildTextRow.domain false) (Rows.fnDecimalDigitsRebuildTextSpec.post enc Try.prog Try.f5 false true false false) := by
  refine returnsInHanded_of_change (C := Try.checked) own started (by kernel_rfl) Try.func5
    (ChangeSpec.witness6 (enc := enc) (C := Try.checked) false ⟨#[], #[.string ByteArray.empty, .string ByteArray.empty], []⟩ 8 (by kernel_rfl) (by kernel_rfl) (by kernel_rfl) (by kernel_rfl)) ?_
  intro W base args ds gs before hval0 hW hcnd _
  have hval : ∀ (j : Nat) t v, Try.f5.params[j]? = some t → args[j]? = some v → Value.okWide Try.prog W .any base t v := hval0
  have hW' := hW
  obtain ⟨p, q, hA0, hV, rfl, hfz, hnd⟩ := hW
  have hA : DataW.TrodAll enc Try.prog W 0 (fun _ => true) true Try.f5.params.toList args.toList ds p := hA0
  rw [Try.params5] at hA hval
  obtain ⟨v0, vs0, d0, ds0, p0, q0, hargs, rfl, rfl, h0, r0⟩ := trodAll_cons hA
  obtain ⟨v1, vs1, d1, ds1, p1, q1, rfl, rfl, rfl, h1, r1⟩ := trodAll_cons r0
  obtain ⟨rfl, rfl, rfl⟩ := trodAll_nil r1
  obtain rfl : args = #[v0, v1] := by cases args; simp_all
  obtain ⟨rfl, rfl⟩ := trodVars_none hV
  obtain ⟨a0, rfl, rfl, rfl, w0⟩ := open_string Try.underlying9 (hval 0 9 v0 rfl rfl) h0
  obtain ⟨a1, rfl, rfl, rfl, w1⟩ := open_string Try.underlying9 (hval 1 9 v1 rfl rfl) h1
  clear hA0 hval0
  simp only [List.append_nil] at hW'
  refine (walk a0 a1 w0 w1 W).mono fun e W' ⟨he, hg⟩ => ?_
  subst he
  exact ⟨_, rfl, _, _, _, [], [], [], hW', trodAll_mk1 (shut_bool Try.underlying4 _), (trodAll_cons_mk (shut_string Try.underlying9 w0) (trodAll_cons_mk (shut_string Try.underlying9 w1) trodAll_mk0)), rfl, hg.frame _, fun h => by cases h⟩

theorem over : Rows.fnDecimalDigitsRebuildTextRow.holds Try.pinned (OpenSpec.ofChange Rows.fnDecimalDigitsRebuildTextSpec) :=
  OpenClaim.holds_of_wide 5 Try.f5 rfl rfl rfl rfl rfl rfl rfl ⟨rfl, rfl, rfl, rfl, rfl⟩ rfl rfl rfl rfl rfl (by kernel_rfl) Try.func5 (by kernel_rfl)
    (of_decide_eq_true (by kernel_rfl)) (by unfold Func.isWrapper; first | (rw [if_pos (by decide +kernel)]; kernel_rfl) | (rw [if_neg (by decide +kernel)]; exact ⟨rfl, rfl⟩))
    (fun os started H enc _ => lifted os started H enc)

/-- ████ THE STATEMENT ████ -/
theorem proved : Rows.FnDecimalDigitsRebuildTextSaid :=
  over
#print axioms proved
end Go.Proofs.Qxb6605188a.fnDecimalDigitsRebuildText
