import Derived.Test.Qxb6605188aDigit
namespace Go.Proofs.Qxb6605188a
open Go.RowKit
set_option linter.unusedVariables false

def inTab (c : Int) : Bool := decide (48 ≤ c ∧ c ≤ 57)
/-- The bytes before k are digits. -/
def digTo (s : ByteArray) (k : Nat) : Prop := ∀ i, i < k → 48 ≤ byteI s i ∧ byteI s i ≤ 57
def isDigB (s : ByteArray) : Bool := decide (0 < s.size) && (List.range s.size).all fun i => inTab (byteI s i)
theorem isDigB_yes {s : ByteArray} (h0 : 0 < s.size) (h : digTo s s.size) : isDigB s = true := by
  unfold isDigB
  simp only [Bool.and_eq_true, decide_eq_true_eq, List.all_eq_true, List.mem_range]
  exact ⟨h0, fun i hi => decide_eq_true (h i hi)⟩
theorem isDigB_no {s : ByteArray} (i : Nat) (hi : i < s.size) (h : ¬ (48 ≤ byteI s i ∧ byteI s i ≤ 57)) : isDigB s = false := by
  unfold isDigB
  rw [Bool.and_eq_false_iff]
  right
  rw [List.all_eq_false]
  exact ⟨i, List.mem_range.2 hi, by simpa [inTab] using h⟩
theorem isDigB_empty {s : ByteArray} (h : s.size = 0) : isDigB s = false := by
  unfold isDigB
  rw [h]
  rfl

theorem tab_get : ∀ k : Nat, (h : k < 10) → (((⟨#[48, 49, 50, 51, 52, 53, 54, 55, 56, 57]⟩ : ByteArray)[k]'(by exact h)).toNat : Int) = 48 + (k : Int)
  | 0, _ => rfl
  | 1, _ => rfl
  | 2, _ => rfl
  | 3, _ => rfl
  | 4, _ => rfl
  | 5, _ => rfl
  | 6, _ => rfl
  | 7, _ => rfl
  | 8, _ => rfl
  | 9, _ => rfl
  | k + 10, h => by omega

theorem inTab_yes {c : Int} (h : 48 ≤ c ∧ c ≤ 57) : inTab c = true := decide_eq_true h
theorem inTab_no {c : Int} (h : ¬ (48 ≤ c ∧ c ≤ 57)) : inTab c = false := decide_eq_false h

set_option maxHeartbeats 400000 in
theorem tab_any (c : Int) (h0 : 0 ≤ c) (h1 : c < 256) (w : World) :
    Calls Try.prog 10 #[.int .u8 c] w fun e w' => e = .returned (.bool (inTab c)) ∧ w = w' := by
  go_enter Try.func10, Try.ntmps10
  go_wp2
  go_loop [3] (fun j => ∃ k : Nat, k ≤ 10 ∧ j = .int .i64 k ∧ ∀ i : Nat, i < k → c ≠ 48 + (i : Int)) (fun j => 10 - (intOf j).toNat)
  case atStart => exact ⟨0, by omega, rfl, fun i hi => by omega⟩
  case round =>
    obtain ⟨k, hk, rfl, hne⟩ := hrel
    have HN : Hid (∀ i : Nat, i < k → c ≠ 48 + (i : Int)) := hne
    clear hne
    by_cases hlt : k < 10
    · have HT := tab_get k hlt
      go_wp2
      · rename_i hc _
        have hc2 := eq_of_beq hc
        go_ret
        exact ⟨ret_bool (inTab_yes (by omega)).symm, rfl⟩
      · rename_i hc
        have hc2 := ne_of_beq_false hc
        go_round
        case rel => exact ⟨k + 1, by omega, by go_num, fun i hi => by
          by_cases e : i = k
          · subst e; omega
          · exact HN.out i (by omega)⟩
        case measure => simp [intOf]; omega
    · have hk2 : k = 10 := by omega
      have HC : Hid (inTab c = false) := inTab_no (fun hc => HN.out (c - 48).toNat (by omega) (by omega))
      go_wp2
      go_ret
      exact ⟨ret_bool HC.out.symm, rfl⟩

theorem tab_b (c : Int) (b : Bool) (H : Hid (inTab c = b)) (h0 : 0 ≤ c) (h1 : c < 256) (w : World) :
    Calls Try.prog 10 #[.int .u8 c] w fun e w' => e = .returned (.bool b) ∧ w = w' := by
  rw [← H.out]
  exact tab_any c h0 h1 w

theorem empty_yes {s : ByteArray} (h : s.size = 0) : s.toList.isEmpty = true := by
  rw [ByteArray.toList_eq, List.isEmpty_iff, ← List.length_eq_zero_iff]
  simpa using h
theorem empty_no {s : ByteArray} (h : 0 < s.size) : s.toList.isEmpty = false := by
  rw [ByteArray.toList_eq, List.isEmpty_eq_false_iff_exists_mem]
  exact ⟨s.data.toList[0]'(by simpa using h), List.getElem_mem _⟩

set_option maxHeartbeats 400000 in
theorem isDigits_any (s : ByteArray) (hs : (s.size : Int) ≤ 1048576) (w : World) :
    Calls Try.prog 19 #[.string s] w fun e w' => e = .returned (.bool (isDigB s)) ∧ w = w' := by
  by_cases h0 : s.size = 0
  · have he := empty_yes h0
    go_enter Try.func19, Try.ntmps19
    go_wp2
    go_ret
    exact ⟨ret_bool (isDigB_empty h0).symm, rfl⟩
  · have hp : 0 < s.size := by omega
    have he := empty_no hp
    go_enter Try.func19, Try.ntmps19
    go_wp2
    go_loop [3] (fun j => ∃ k : Nat, k ≤ s.size ∧ j = .int .i64 k ∧ digTo s k) (fun j => s.size - (intOf j).toNat)
    case atStart => exact ⟨0, by omega, rfl, fun i hi => by omega⟩
    case round =>
      obtain ⟨k, hk, rfl, hne⟩ := hrel
      by_cases hlt : k < s.size
      · have HB : Hid ((s[k].toNat : Int) = byteI s k) := byteI_get s k hlt
        by_cases hlo : (s[k].toNat : Int) < 48
        · go_wp2
          go_ret
          exact ⟨ret_bool (isDigB_no k hlt (by rw [← HB.out]; omega)).symm, rfl⟩
        · by_cases hhi : (57 : Int) < (s[k].toNat : Int)
          · go_wp2
            go_ret
            exact ⟨ret_bool (isDigB_no k hlt (by rw [← HB.out]; omega)).symm, rfl⟩
          · go_wp2
            go_round
            case rel => exact ⟨k + 1, by omega, by go_num, fun i hi => by
              by_cases e : i = k
              · subst e; rw [← HB.out]; omega
              · exact hne i (by omega)⟩
            case measure => simp [intOf]; omega
      · have hk2 : k = s.size := by omega
        have HC : Hid (isDigB s = true) := isDigB_yes hp (by rw [← hk2]; exact hne)
        clear hk2
        go_wp2
        go_ret
        exact ⟨ret_bool HC.out.symm, rfl⟩

set_option maxHeartbeats 400000 in
theorem zzisDigits_any (s : ByteArray) (hs : (s.size : Int) ≤ 1048576) (w : World) :
    Calls Try.prog 9 #[.string s] w fun e w' => e = .returned (.bool (isDigB s)) ∧ w = w' := by
  go_enter Try.func9, Try.ntmps9
  go_wp2_with (go_at_call 19; refine (isDigits_any _ hs _).mono ?_; rintro e w' ⟨rfl, rfl⟩)
  go_ret
  exact ⟨rfl, rfl⟩

set_option maxHeartbeats 400000 in
theorem zzbytes8_yes (a : ByteArray) (w : World) (h : (a.size : Int) ≤ 1048576) :
    Calls Try.prog 8 #[.string a] w fun e w' => e = .returned (.bool true) ∧ w = w' := by
  go_enter Try.func8, Try.ntmps8
  go_wp2
  go_ret
  exact ⟨rfl, rfl⟩

set_option maxHeartbeats 400000 in
theorem zzbytes8_no (a : ByteArray) (w : World) (ha : a.size ≤ maxLen) (h : (1048576 : Int) < (a.size : Int)) :
    Calls Try.prog 8 #[.string a] w fun e w' => e = .returned (.bool false) ∧ w = w' := by
  unfold maxLen at ha
  go_enter Try.func8, Try.ntmps8
  go_wp2
  go_ret
  exact ⟨rfl, rfl⟩

end Go.Proofs.Qxb6605188a
