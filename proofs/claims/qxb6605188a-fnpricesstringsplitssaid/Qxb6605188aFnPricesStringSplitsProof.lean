import Derived.Test.Qxb6605188aSplit
import Derived.ProofKit
import Derived.OpenShut
import Derived.ShutString
namespace Go.Proofs.Qxb6605188a.fnPricesStringSplits
open Go.ChangeShapes Go.WideShapes Go.ChangeAt Go.RowKit
open Go.ChangeMaps (open_string shut_string)
set_option linter.unusedVariables false      -- a walk need not use every 'w<i>' (that an integer argument fits its kind)

theorem own : ownKnob Try.prog.godebug = none := by kernel_rfl

/-! ### STEP 1: THE WALK -/
set_option maxHeartbeats 400000 in
theorem zzbytes17_yes (a b : ByteArray) (w : World) (h : (a.size : Int) + (b.size : Int) ≤ 1048576) :
    Calls Try.prog 17 #[.string a, .string b] w fun e w' => e = .returned (.bool true) ∧ w = w' := by
  go_enter Try.func17, Try.ntmps17
  go_wp2
  go_ret
  exact ⟨rfl, rfl⟩

set_option maxHeartbeats 400000 in
theorem zzbytes17_no (a b : ByteArray) (w : World) (ha : a.size ≤ maxLen) (hb : b.size ≤ maxLen) (h : ¬ (a.size : Int) + (b.size : Int) ≤ 1048576) :
    Calls Try.prog 17 #[.string a, .string b] w fun e w' => e = .returned (.bool false) ∧ w = w' := by
  unfold maxLen at ha hb
  by_cases h1 : (1048576 : Int) < (a.size : Int)
  · go_enter Try.func17, Try.ntmps17
    go_wp2
    go_ret
    exact ⟨rfl, rfl⟩
  · by_cases h2 : (1048576 : Int) < (b.size : Int)
    · go_enter Try.func17, Try.ntmps17
      go_wp2
      go_ret
      exact ⟨rfl, rfl⟩
    · go_enter Try.func17, Try.ntmps17
      go_wp2
      go_ret
      exact ⟨rfl, rfl⟩

set_option maxHeartbeats 400000 in
theorem bracketed_yes (s : ByteArray) (b : List UInt8) (H : Hid (s.data.toList = 91 :: b ++ [93])) (hs : s.size ≤ 2000000) (w : World) :
    Calls Try.prog 18 #[.string s] w fun e w' => e = .returned (.bool true) ∧ w = w' := by
  have h2 : s.size = b.length + 2 := by
    have := congrArg List.length H.out
    simpa using this
  have hn : (2 : Int) ≤ (s.size : Int) := by omega
  have hp : 0 < s.size := by omega
  have hq : s.size - 1 < s.size := by omega
  have e0 : ((s[0].toNat : Int) == 91) = true := by
    rw [byteI_get]
    unfold byteI
    rw [H.out]
    rfl
  have e1 : ((s[s.size - 1].toNat : Int) == 93) = true := by
    rw [byteI_get]
    unfold byteI
    rw [H.out, h2]
    simp
  clear h2
  go_enter Try.func18, Try.ntmps18
  go_wp2
  go_ret
  exact ⟨rfl, rfl⟩

set_option maxHeartbeats 400000 in
theorem walk_no (a0 : ByteArray) (a1 : ByteArray) (w0 : a0.size ≤ maxLen) (w1 : a1.size ≤ maxLen) (hs : ¬ (a0.size : Int) + (a1.size : Int) ≤ 1048576) (w : World) :
    Calls Try.prog 7 #[.string a0, .string a1] w fun e w' => e = .returned (.bool true) ∧ Below w.heap.size w w' := by
  go_enter Try.func7, Try.ntmps7
  go_wp2_with (go_at_call 17; refine (zzbytes17_no _ _ _ w0 w1 hs).mono ?_; rintro e w' ⟨rfl, rfl⟩)
  go_ret
  exact ⟨rfl, Below.refl _ _⟩

set_option maxHeartbeats 400000 in
theorem walk_odd (a0 : ByteArray) (a1 : ByteArray) (hs : (a0.size : Int) + (a1.size : Int) ≤ 1048576) (hm : ¬ (a0.size : Int) % 8 = 0) (w : World) :
    Calls Try.prog 7 #[.string a0, .string a1] w fun e w' => e = .returned (.bool true) ∧ Below w.heap.size w w' := by
  have hm' : ((a0.size : Int) % 8 != 0) = true := by rw [bne_iff_ne]; exact hm
  clear hm
  go_enter Try.func7, Try.ntmps7
  go_wp2_with (go_at_call 17; refine (zzbytes17_yes _ _ _ hs).mono ?_; rintro e w' ⟨rfl, rfl⟩)
  go_ret
  exact ⟨rfl, Below.refl _ _⟩

theorem string_t (s t : ByteArray) (w : World) (H : Hid ((⟨(pstr s.data.toList).toArray⟩ : ByteArray) = t)) (hs : (s.size : Int) ≤ 1048576) :
    Calls Try.prog 16 #[.agg #[.string s]] w fun e w' => e = .returned (.string t) ∧ Below w.heap.size w w' := by
  rw [← H.out]
  exact string_any s w hs

set_option maxHeartbeats 1000000 in
theorem walk_none (a0 a1 sa sb : ByteArray) (ba bb : List UInt8) (hs : (a0.size : Int) + (a1.size : Int) ≤ 1048576) (hm : ((a0.size : Int) % 8 != 0) = false) (hn : ((a0.size : Int) + (a1.size : Int)) / 8 ≤ 0)
    (hsa : sa.size ≤ 2000000) (hsb : sb.size ≤ 2000000) (hsa2 : (2 : Int) ≤ (sa.size : Int)) (hsb2 : (2 : Int) ≤ (sb.size : Int))
    (HA : Hid ((⟨(pstr a0.data.toList).toArray⟩ : ByteArray) = sa)) (HB : Hid ((⟨(pstr a1.data.toList).toArray⟩ : ByteArray) = sb)) (HW : Hid ((⟨(pstr (a0 ++ a1).data.toList).toArray⟩ : ByteArray) = sb))
    (HLA : Hid (sa.data.toList = 91 :: ba ++ [93])) (HLB : Hid (sb.data.toList = 91 :: bb ++ [93]))
    (hae : (sa.extract 1 (sa.size - 1)).toList.isEmpty = true)
    (HSZ : Hid ((sb.size : Int) = 2)) (w : World) :
    Calls Try.prog 7 #[.string a0, .string a1] w fun e w' => e = .returned (.bool true) ∧ Below w.heap.size w w' := by
  have hcc : ((a0 ++ a1).size : Int) ≤ 1048576 := by simp; omega
  go_enter Try.func7, Try.ntmps7
  go_wp2_with (go_at_call 17; refine (zzbytes17_yes _ _ _ hs).mono ?_; rintro e w' ⟨rfl, rfl⟩)
  refine (newPrices_any _ _).mono ?_
  rintro e w1 ⟨rfl, hb1⟩
  go_wp2_with fail
  refine (string_t _ sb _ HW hcc).mono ?_
  rintro e w2 ⟨rfl, hb2⟩
  have hB2 := hb1.trans (hb2.mono hb1.size)
  clear hb1 hb2
  go_wp2_with fail
  refine (newPrices_any _ _).mono ?_
  rintro e w3 ⟨rfl, hb3⟩
  go_wp2_with fail
  refine (string_t _ sa _ HA (by omega)).mono ?_
  rintro e w4 ⟨rfl, hb4⟩
  have hB4 := (hB2.trans (hb3.mono hB2.size)).trans (hb4.mono (Nat.le_trans hB2.size hb3.size))
  clear hb3 hb4 hB2
  go_wp2_with fail
  refine (newPrices_any _ _).mono ?_
  rintro e w5 ⟨rfl, hb5⟩
  go_wp2_with fail
  refine (string_t _ sb _ HB (by omega)).mono ?_
  rintro e w6 ⟨rfl, hb6⟩
  have hB6 := (hB4.trans (hb5.mono hB4.size)).trans (hb6.mono (Nat.le_trans hB4.size hb5.size))
  clear hb5 hb6 hB4
  go_wp2_with fail
  refine (bracketed_yes _ _ HLA hsa _).mono ?_
  rintro e w7 ⟨rfl, rfl⟩
  go_wp2_with fail
  refine (bracketed_yes _ _ HLB hsb _).mono ?_
  rintro e w8 ⟨rfl, rfl⟩
  go_wp2_with fail
  go_ret
  exact ⟨ret_bool (beq_iff_eq.2 HSZ.out), hB6⟩

set_option maxHeartbeats 1000000 in
theorem walk_right (a0 a1 sa sb : ByteArray) (ba bb : List UInt8) (hs : (a0.size : Int) + (a1.size : Int) ≤ 1048576) (hm : ((a0.size : Int) % 8 != 0) = false) (hn : 0 < ((a0.size : Int) + (a1.size : Int)) / 8)
    (hsa : sa.size ≤ 2000000) (hsb : sb.size ≤ 2000000) (hsa2 : (2 : Int) ≤ (sa.size : Int)) (hsb2 : (2 : Int) ≤ (sb.size : Int))
    (HA : Hid ((⟨(pstr a0.data.toList).toArray⟩ : ByteArray) = sa)) (HB : Hid ((⟨(pstr a1.data.toList).toArray⟩ : ByteArray) = sb)) (HW : Hid ((⟨(pstr (a0 ++ a1).data.toList).toArray⟩ : ByteArray) = sb))
    (HLA : Hid (sa.data.toList = 91 :: ba ++ [93])) (HLB : Hid (sb.data.toList = 91 :: bb ++ [93]))
    (hae : (sa.extract 1 (sa.size - 1)).toList.isEmpty = true)
    (HSZ : Hid ((sb.size : Int) = ((a0.size : Int) + (a1.size : Int)) / 8 * 9 + 1)) (w : World) :
    Calls Try.prog 7 #[.string a0, .string a1] w fun e w' => e = .returned (.bool true) ∧ Below w.heap.size w w' := by
  have hcc : ((a0 ++ a1).size : Int) ≤ 1048576 := by simp; omega
  go_enter Try.func7, Try.ntmps7
  go_wp2_with (go_at_call 17; refine (zzbytes17_yes _ _ _ hs).mono ?_; rintro e w' ⟨rfl, rfl⟩)
  refine (newPrices_any _ _).mono ?_
  rintro e w1 ⟨rfl, hb1⟩
  go_wp2_with fail
  refine (string_t _ sb _ HW hcc).mono ?_
  rintro e w2 ⟨rfl, hb2⟩
  have hB2 := hb1.trans (hb2.mono hb1.size)
  clear hb1 hb2
  go_wp2_with fail
  refine (newPrices_any _ _).mono ?_
  rintro e w3 ⟨rfl, hb3⟩
  go_wp2_with fail
  refine (string_t _ sa _ HA (by omega)).mono ?_
  rintro e w4 ⟨rfl, hb4⟩
  have hB4 := (hB2.trans (hb3.mono hB2.size)).trans (hb4.mono (Nat.le_trans hB2.size hb3.size))
  clear hb3 hb4 hB2
  go_wp2_with fail
  refine (newPrices_any _ _).mono ?_
  rintro e w5 ⟨rfl, hb5⟩
  go_wp2_with fail
  refine (string_t _ sb _ HB (by omega)).mono ?_
  rintro e w6 ⟨rfl, hb6⟩
  have hB6 := (hB4.trans (hb5.mono hB4.size)).trans (hb6.mono (Nat.le_trans hB4.size hb5.size))
  clear hb5 hb6 hB4
  go_wp2_with fail
  refine (bracketed_yes _ _ HLA hsa _).mono ?_
  rintro e w7 ⟨rfl, rfl⟩
  go_wp2_with fail
  refine (bracketed_yes _ _ HLB hsb _).mono ?_
  rintro e w8 ⟨rfl, rfl⟩
  go_wp2_with fail
  go_ret
  exact ⟨ret_bool (beq_iff_eq.2 HSZ.out), hB6⟩

set_option maxHeartbeats 1000000 in
theorem walk_left (a0 a1 sa sb : ByteArray) (ba bb : List UInt8) (hs : (a0.size : Int) + (a1.size : Int) ≤ 1048576) (hm : ((a0.size : Int) % 8 != 0) = false) (hn : 0 < ((a0.size : Int) + (a1.size : Int)) / 8)
    (hsa : sa.size ≤ 2000000) (hsb : sb.size ≤ 2000000) (hsa2 : (2 : Int) ≤ (sa.size : Int)) (hsb2 : (2 : Int) ≤ (sb.size : Int))
    (HA : Hid ((⟨(pstr a0.data.toList).toArray⟩ : ByteArray) = sa)) (HB : Hid ((⟨(pstr a1.data.toList).toArray⟩ : ByteArray) = sb)) (HW : Hid ((⟨(pstr (a0 ++ a1).data.toList).toArray⟩ : ByteArray) = sa))
    (HLA : Hid (sa.data.toList = 91 :: ba ++ [93])) (HLB : Hid (sb.data.toList = 91 :: bb ++ [93]))
    (hae : (sa.extract 1 (sa.size - 1)).toList.isEmpty = false) (hbe : (sb.extract 1 (sb.size - 1)).toList.isEmpty = true)
    (HSZ : Hid ((sa.size : Int) = ((a0.size : Int) + (a1.size : Int)) / 8 * 9 + 1)) (w : World) :
    Calls Try.prog 7 #[.string a0, .string a1] w fun e w' => e = .returned (.bool true) ∧ Below w.heap.size w w' := by
  have hcc : ((a0 ++ a1).size : Int) ≤ 1048576 := by simp; omega
  go_enter Try.func7, Try.ntmps7
  go_wp2_with (go_at_call 17; refine (zzbytes17_yes _ _ _ hs).mono ?_; rintro e w' ⟨rfl, rfl⟩)
  refine (newPrices_any _ _).mono ?_
  rintro e w1 ⟨rfl, hb1⟩
  go_wp2_with fail
  refine (string_t _ sa _ HW hcc).mono ?_
  rintro e w2 ⟨rfl, hb2⟩
  have hB2 := hb1.trans (hb2.mono hb1.size)
  clear hb1 hb2
  go_wp2_with fail
  refine (newPrices_any _ _).mono ?_
  rintro e w3 ⟨rfl, hb3⟩
  go_wp2_with fail
  refine (string_t _ sa _ HA (by omega)).mono ?_
  rintro e w4 ⟨rfl, hb4⟩
  have hB4 := (hB2.trans (hb3.mono hB2.size)).trans (hb4.mono (Nat.le_trans hB2.size hb3.size))
  clear hb3 hb4 hB2
  go_wp2_with fail
  refine (newPrices_any _ _).mono ?_
  rintro e w5 ⟨rfl, hb5⟩
  go_wp2_with fail
  refine (string_t _ sb _ HB (by omega)).mono ?_
  rintro e w6 ⟨rfl, hb6⟩
  have hB6 := (hB4.trans (hb5.mono hB4.size)).trans (hb6.mono (Nat.le_trans hB4.size hb5.size))
  clear hb5 hb6 hB4
  go_wp2_with fail
  refine (bracketed_yes _ _ HLA hsa _).mono ?_
  rintro e w7 ⟨rfl, rfl⟩
  go_wp2_with fail
  refine (bracketed_yes _ _ HLB hsb _).mono ?_
  rintro e w8 ⟨rfl, rfl⟩
  go_wp2_with fail
  go_ret
  exact ⟨ret_bool (beq_iff_eq.2 HSZ.out), hB6⟩

set_option maxHeartbeats 1000000 in
theorem walk_both (a0 a1 sa sb sw : ByteArray) (ba bb : List UInt8) (hs : (a0.size : Int) + (a1.size : Int) ≤ 1048576) (hm : ((a0.size : Int) % 8 != 0) = false) (hn : 0 < ((a0.size : Int) + (a1.size : Int)) / 8)
    (hsa : sa.size ≤ 2000000) (hsb : sb.size ≤ 2000000) (hsa2 : (2 : Int) ≤ (sa.size : Int)) (hsb2 : (2 : Int) ≤ (sb.size : Int))
    (HA : Hid ((⟨(pstr a0.data.toList).toArray⟩ : ByteArray) = sa)) (HB : Hid ((⟨(pstr a1.data.toList).toArray⟩ : ByteArray) = sb)) (HW : Hid ((⟨(pstr (a0 ++ a1).data.toList).toArray⟩ : ByteArray) = sw))
    (HLA : Hid (sa.data.toList = 91 :: ba ++ [93])) (HLB : Hid (sb.data.toList = 91 :: bb ++ [93]))
    (hae : (sa.extract 1 (sa.size - 1)).toList.isEmpty = false) (hbe : (sb.extract 1 (sb.size - 1)).toList.isEmpty = false)
    (HSZ : Hid ((sw.size : Int) = ((a0.size : Int) + (a1.size : Int)) / 8 * 9 + 1)) (HEQ : Hid (sw.toList = ((⟨#[91]⟩ : ByteArray) ++ sa.extract 1 (sa.size - 1) ++ ⟨#[32]⟩ ++ sb.extract 1 (sb.size - 1) ++ ⟨#[93]⟩).toList)) (w : World) :
    Calls Try.prog 7 #[.string a0, .string a1] w fun e w' => e = .returned (.bool true) ∧ Below w.heap.size w w' := by
  have hcc : ((a0 ++ a1).size : Int) ≤ 1048576 := by simp; omega
  go_enter Try.func7, Try.ntmps7
  go_wp2_with (go_at_call 17; refine (zzbytes17_yes _ _ _ hs).mono ?_; rintro e w' ⟨rfl, rfl⟩)
  refine (newPrices_any _ _).mono ?_
  rintro e w1 ⟨rfl, hb1⟩
  go_wp2_with fail
  refine (string_t _ sw _ HW hcc).mono ?_
  rintro e w2 ⟨rfl, hb2⟩
  have hB2 := hb1.trans (hb2.mono hb1.size)
  clear hb1 hb2
  go_wp2_with fail
  refine (newPrices_any _ _).mono ?_
  rintro e w3 ⟨rfl, hb3⟩
  go_wp2_with fail
  refine (string_t _ sa _ HA (by omega)).mono ?_
  rintro e w4 ⟨rfl, hb4⟩
  have hB4 := (hB2.trans (hb3.mono hB2.size)).trans (hb4.mono (Nat.le_trans hB2.size hb3.size))
  clear hb3 hb4 hB2
  go_wp2_with fail
  refine (newPrices_any _ _).mono ?_
  rintro e w5 ⟨rfl, hb5⟩
  go_wp2_with fail
  refine (string_t _ sb _ HB (by omega)).mono ?_
  rintro e w6 ⟨rfl, hb6⟩
  have hB6 := (hB4.trans (hb5.mono hB4.size)).trans (hb6.mono (Nat.le_trans hB4.size hb5.size))
  clear hb5 hb6 hB4
  go_wp2_with fail
  refine (bracketed_yes _ _ HLA hsa _).mono ?_
  rintro e w7 ⟨rfl, rfl⟩
  go_wp2_with fail
  refine (bracketed_yes _ _ HLB hsb _).mono ?_
  rintro e w8 ⟨rfl, rfl⟩
  go_wp2_with fail
  go_ret
  exact ⟨ret_bool (beq_iff_eq.2 HSZ.out), hB6⟩

/-! ### THE PLAIN LAW -/
theorem pstr_app (l m : List UInt8) (n : Nat) (hn : l.length = n * 8) : pstr (l ++ m) = 91 :: (pbody l n ++ ((if n = 0 ∨ m.length / 8 = 0 then [] else [32]) ++ pbody m (m.length / 8))) ++ [93] := by
  unfold pstr
  have e : (l ++ m).length / 8 = n + m.length / 8 := by rw [List.length_append, hn]; omega
  rw [e, pbody_split l m n hn]

theorem size_of (l : List UInt8) : (⟨(pstr l).toArray⟩ : ByteArray).size = 9 * (l.length / 8) - 1 + 2 := by
  show (pstr l).toArray.size = _
  rw [List.size_toArray, pstr_len]

theorem empty_of (l : List UInt8) (b : Bool) (h : ((9 * (l.length / 8) - 1 == 0) = b)) : ((⟨(pstr l).toArray⟩ : ByteArray).extract 1 ((⟨(pstr l).toArray⟩ : ByteArray).size - 1)).toList.isEmpty = b := by
  rw [ByteArray.toList_eq, inner_list (b := pbody l (l.length / 8)) rfl, ← h]
  have hl := pbody_length l (l.length / 8) (by omega)
  rw [← hl]
  cases pbody l (l.length / 8) <;> simp

theorem walk_yes (a0 : ByteArray) (a1 : ByteArray) (hs : (a0.size : Int) + (a1.size : Int) ≤ 1048576) (hm : (a0.size : Int) % 8 = 0) (w : World) :
    Calls Try.prog 7 #[.string a0, .string a1] w fun e w' => e = .returned (.bool true) ∧ Below w.heap.size w w' := by
  have hm' : ((a0.size : Int) % 8 != 0) = false := by rw [hm]; rfl
  have ea : a0.data.toList.length = a0.size := by simp
  have eb : a1.data.toList.length = a1.size := by simp
  have eab : (a0 ++ a1).data.toList = a0.data.toList ++ a1.data.toList := by simp
  have za := size_of a0.data.toList
  have zb := size_of a1.data.toList
  rw [ea] at za
  rw [eb] at zb
  have happ := pstr_app a0.data.toList a1.data.toList (a0.size / 8) (by rw [ea]; omega)
  by_cases h0 : a0.size = 0
  · have hl : a0.data.toList = [] := List.eq_nil_of_length_eq_zero (by rw [ea]; exact h0)
    have hw : (⟨(pstr (a0 ++ a1).data.toList).toArray⟩ : ByteArray) = ⟨(pstr a1.data.toList).toArray⟩ := by rw [eab, hl, List.nil_append]
    by_cases h1 : a1.size / 8 = 0
    · exact walk_none a0 a1 _ _ _ _ hs hm' (by omega) (by omega) (by omega) (by omega) (by omega) rfl rfl hw rfl rfl (empty_of _ _ (by rw [ea, h0]; rfl)) (show _ = _ by rw [zb, h1]; rfl) w
    · exact walk_right a0 a1 _ _ _ _ hs hm' (by omega) (by omega) (by omega) (by omega) (by omega) rfl rfl hw rfl rfl (empty_of _ _ (by rw [ea, h0]; rfl)) (show _ = _ by rw [zb]; omega) w
  · by_cases h1 : a1.size / 8 = 0
    · have hw : (⟨(pstr (a0 ++ a1).data.toList).toArray⟩ : ByteArray) = ⟨(pstr a0.data.toList).toArray⟩ := by
        rw [eab, happ, eb, h1, if_pos (.inr rfl)]
        unfold pstr
        rw [ea]
        simp [pbody]
      exact walk_left a0 a1 _ _ _ _ hs hm' (by omega) (by omega) (by omega) (by omega) (by omega) rfl rfl hw rfl rfl (empty_of _ _ (by rw [ea, beq_eq_false_iff_ne]; omega)) (empty_of _ _ (by rw [eb, h1]; rfl)) (show _ = _ by rw [za]; omega) w
    · have zw := size_of (a0 ++ a1).data.toList
      rw [eab, List.length_append, ea, eb, ← eab] at zw
      refine walk_both a0 a1 _ _ _ _ _ hs hm' (by omega) (by omega) (by omega) (by omega) (by omega) rfl rfl rfl rfl rfl (empty_of _ _ (by rw [ea, beq_eq_false_iff_ne]; omega)) (empty_of _ _ (by rw [eb, beq_eq_false_iff_ne]; omega)) (show _ = _ by rw [zw]; omega) (show _ = _ from ?_) w
      rw [ByteArray.toList_eq, ByteArray.toList_eq]
      show pstr (a0 ++ a1).data.toList = _
      rw [eab, happ, eb, if_neg (by omega)]
      simp only [ByteArray.data_append, Array.toList_append]
      rw [inner_list (b := pbody a0.data.toList (a0.data.toList.length / 8)) rfl, inner_list (b := pbody a1.data.toList (a1.data.toList.length / 8)) rfl, ea, eb]
      simp

theorem walk (a0 : ByteArray) (a1 : ByteArray) (w0 : a0.size ≤ maxLen) (w1 : a1.size ≤ maxLen) (w : World) :
    Calls Try.prog 7 #[.string a0, .string a1] w fun e w' => e = .returned (.bool true) ∧ Below w.heap.size w w' := by
  by_cases hs : (a0.size : Int) + (a1.size : Int) ≤ 1048576
  · by_cases hm : (a0.size : Int) % 8 = 0
    · exact walk_yes a0 a1 hs hm w
    · exact walk_odd a0 a1 hs hm w
  · exact walk_no a0 a1 w0 w1 hs w

/-! ### THE ROW's STEP: WRITTEN OUT: LEAVE IT -/
set_option maxRecDepth 100000 in
theorem lifted (os : Os) (started : os.Started) (H : Type) (enc : TypeId × Value → H) :
    ReturnsInHanded {} Try.checked os 7 .any (Rows.fnPricesStringSplitsSpec.pre6 enc Try.prog Try.f7 Rows.fnPricesStringSplitsRow.domain false) (Rows.fnPricesStringSplitsSpec.post enc Try.prog Try.f7 false true false false) := by
  refine returnsInHanded_of_change (C := Try.checked) own started (by kernel_rfl) Try.func7
    (ChangeSpec.witness6 (enc := enc) (C := Try.checked) false ⟨#[], #[.string ByteArray.empty, .string ByteArray.empty], []⟩ 8 (by kernel_rfl) (by kernel_rfl) (by kernel_rfl) (by kernel_rfl)) ?_
  intro W base args ds gs before hval0 hW hcnd _
  have hval : ∀ (j : Nat) t v, Try.f7.params[j]? = some t → args[j]? = some v → Value.okWide Try.prog W .any base t v := hval0
  have hW' := hW
  obtain ⟨p, q, hA0, hV, rfl, hfz, hnd⟩ := hW
  have hA : DataW.TrodAll enc Try.prog W 0 (fun _ => true) true Try.f7.params.toList args.toList ds p := hA0
  rw [Try.params7] at hA hval
  obtain ⟨v0, vs0, d0, ds0, p0, q0, hargs, rfl, rfl, h0, r0⟩ := trodAll_cons hA
  obtain ⟨v1, vs1, d1, ds1, p1, q1, rfl, rfl, rfl, h1, r1⟩ := trodAll_cons r0
  obtain ⟨rfl, rfl, rfl⟩ := trodAll_nil r1
  obtain rfl : args = #[v0, v1] := by cases args; simp_all
  obtain ⟨rfl, rfl⟩ := trodVars_none hV
  obtain ⟨a0, rfl, rfl, rfl, w0⟩ := open_string Try.underlying9 (hval 0 9 v0 rfl rfl) h0
  obtain ⟨a1, rfl, rfl, rfl, w1⟩ := open_string Try.underlying9 (hval 1 9 v1 rfl rfl) h1
  clear hA0 hval0
  simp only [List.append_nil] at hW'
  refine (walk a0 a1 w0 w1 W).mono fun e W' ⟨he, hg⟩ => ?_
  subst he
  exact ⟨_, rfl, _, _, _, [], [], [], hW', trodAll_mk1 (shut_bool Try.underlying4 _), (trodAll_cons_mk (shut_string Try.underlying9 w0) (trodAll_cons_mk (shut_string Try.underlying9 w1) trodAll_mk0)), rfl, hg.frame _, fun h => by cases h⟩

theorem over : Rows.fnPricesStringSplitsRow.holds Try.pinned (OpenSpec.ofChange Rows.fnPricesStringSplitsSpec) :=
  OpenClaim.holds_of_wide 7 Try.f7 rfl rfl rfl rfl rfl rfl rfl ⟨rfl, rfl, rfl, rfl, rfl⟩ rfl rfl rfl rfl rfl (by kernel_rfl) Try.func7 (by kernel_rfl)
    (of_decide_eq_true (by kernel_rfl)) (by unfold Func.isWrapper; first | (rw [if_pos (by decide +kernel)]; kernel_rfl) | (rw [if_neg (by decide +kernel)]; exact ⟨rfl, rfl⟩))
    (fun os started H enc _ => lifted os started H enc)

/-- ████ THE STATEMENT ████ -/
theorem proved : Rows.FnPricesStringSplitsSaid :=
  over
#print axioms proved
end Go.Proofs.Qxb6605188a.fnPricesStringSplits
