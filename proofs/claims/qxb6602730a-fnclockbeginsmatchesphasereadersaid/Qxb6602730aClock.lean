import Derived.Test.Qxb6602730aRows
import Derived.Test.Qxb6602730aArr
namespace Go.Proofs.Qxb6602730a
open Go.RowKit
set_option linter.unusedVariables false

/-! ### The plain reader -/
/-- The byte at i, as a number; 0 where there is none. -/
def byteI (s : ByteArray) (i : Nat) : Int := (s.data.toList.getD i 0).toNat
theorem byteI_get (s : ByteArray) (i : Nat) (h : i < s.size) : (s[i].toNat : Int) = byteI s i := by
  unfold byteI
  rw [List.getD_eq_getElem?_getD, List.getElem?_eq_getElem (by simpa using h)]
  rfl
theorem byteI_rng (s : ByteArray) (i : Nat) : 0 ≤ byteI s i ∧ byteI s i < 256 := by
  unfold byteI
  have := (s.data.toList.getD i 0).toNat_lt
  omega

def sp (c : Int) : Bool := decide (c = 32 ∨ c = 9 ∨ c = 10 ∨ c = 13)
theorem sp_yes {c : Int} (h : c = 32 ∨ c = 9 ∨ c = 10 ∨ c = 13) : sp c = true := decide_eq_true h
theorem sp_no {c : Int} (h : ¬ (c = 32 ∨ c = 9 ∨ c = 10 ∨ c = 13)) : sp c = false := decide_eq_false h

/-- One byte after another; 'st': what has been read (0: the brace, 1: the opening quote, 2: the closing quote, 3: the colon). -/
def clkF (s : ByteArray) : Nat → Nat → Nat → Bool
  | 0, _, st => decide (st ≠ 0)
  | f + 1, i, st =>
    if i < s.size then
      if st ≠ 1 ∧ sp (byteI s i) = true then clkF s f (i + 1) st
      else if st = 0 then (if byteI s i ≠ 34 then false else clkF s f (i + 1) 1)
      else if st = 1 then (if byteI s i = 92 then clkF s f (i + 2) 1 else if byteI s i < 32 then false else if byteI s i = 34 then clkF s f (i + 1) 2 else clkF s f (i + 1) 1)
      else if st = 2 then (if byteI s i ≠ 58 then false else clkF s f (i + 1) 3)
      else decide (48 ≤ byteI s i ∧ byteI s i ≤ 57)
    else decide (st ≠ 0)

theorem clkF_more (s : ByteArray) : ∀ f i st, s.size ≤ i + f → clkF s (f + 1) i st = clkF s f i st
  | 0, i, st, h => by
    show (if i < s.size then _ else decide (st ≠ 0)) = decide (st ≠ 0)
    rw [if_neg (by omega)]
  | f + 1, i, st, h => by
    have h1 := clkF_more s f (i + 1) st (by omega)
    have h2 := clkF_more s f (i + 1) 1 (by omega)
    have h3 := clkF_more s f (i + 2) 1 (by omega)
    have h4 := clkF_more s f (i + 1) 2 (by omega)
    have h5 := clkF_more s f (i + 1) 3 (by omega)
    rw [clkF, h1, h2, h3, h4, h5]
    rfl
theorem clkF_same (s : ByteArray) (i st : Nat) : ∀ d f, s.size ≤ i + f → clkF s (f + d) i st = clkF s f i st
  | 0, _, _ => rfl
  | d + 1, f, h => by rw [← Nat.add_assoc, clkF_more s (f + d) i st (by omega), clkF_same s i st d f h]

def clk (s : ByteArray) (i st : Nat) : Bool := clkF s (s.size - i) i st

theorem clk_unfold (s : ByteArray) (i st : Nat) (h : i < s.size) : clk s i st =
      if st ≠ 1 ∧ sp (byteI s i) = true then clk s (i + 1) st
      else if st = 0 then (if byteI s i ≠ 34 then false else clk s (i + 1) 1)
      else if st = 1 then (if byteI s i = 92 then clk s (i + 2) 1 else if byteI s i < 32 then false else if byteI s i = 34 then clk s (i + 1) 2 else clk s (i + 1) 1)
      else if st = 2 then (if byteI s i ≠ 58 then false else clk s (i + 1) 3)
      else decide (48 ≤ byteI s i ∧ byteI s i ≤ 57) := by
  obtain ⟨f, hf⟩ : ∃ f, s.size - i = f + 1 := ⟨s.size - i - 1, by omega⟩
  have e1 : ∀ st, clk s (i + 1) st = clkF s f (i + 1) st := fun st => by unfold clk; rw [show s.size - (i + 1) = f from by omega]
  have e2 : ∀ st, clk s (i + 2) st = clkF s f (i + 2) st := fun st => by
    unfold clk
    rw [← clkF_same s (i + 2) st (f - (s.size - (i + 2))) (s.size - (i + 2)) (by omega)]
    rw [show s.size - (i + 2) + (f - (s.size - (i + 2))) = f from by omega]
  rw [e1, e1, e1, e1, e2]
  unfold clk
  rw [hf, clkF, if_pos h]

section
variable {s : ByteArray} {i : Nat}
theorem clk_end {st : Nat} (h : s.size ≤ i) : clk s i st = decide (st ≠ 0) := by
  unfold clk
  rw [show s.size - i = 0 from by omega]
  rfl
theorem clk_sp {st : Nat} (h : i < s.size) (h1 : st ≠ 1) (hs : sp (byteI s i) = true) : clk s i st = clk s (i + 1) st := by
  rw [clk_unfold s i st h, if_pos ⟨h1, hs⟩]
theorem clk_0q (h : i < s.size) (hb : byteI s i = 34) : clk s i 0 = clk s (i + 1) 1 := by
  rw [clk_unfold s i 0 h, if_neg (by rw [hb]; decide), if_pos rfl, if_neg (by omega)]
theorem clk_0x (h : i < s.size) (hs : sp (byteI s i) = false) (hb : byteI s i ≠ 34) : clk s i 0 = false := by
  rw [clk_unfold s i 0 h, if_neg (by rw [hs]; simp), if_pos rfl, if_pos hb]
theorem clk_1b (h : i < s.size) (hb : byteI s i = 92) : clk s i 1 = clk s (i + 2) 1 := by
  rw [clk_unfold s i 1 h, if_neg (by simp), if_neg (by decide), if_pos rfl, if_pos hb]
theorem clk_1c (h : i < s.size) (h1 : byteI s i ≠ 92) (hb : byteI s i < 32) : clk s i 1 = false := by
  rw [clk_unfold s i 1 h, if_neg (by simp), if_neg (by decide), if_pos rfl, if_neg h1, if_pos hb]
theorem clk_1q (h : i < s.size) (hb : byteI s i = 34) : clk s i 1 = clk s (i + 1) 2 := by
  rw [clk_unfold s i 1 h, if_neg (by simp), if_neg (by decide), if_pos rfl, if_neg (by omega), if_neg (by omega), if_pos hb]
theorem clk_1x (h : i < s.size) (h1 : byteI s i ≠ 92) (h2 : ¬ byteI s i < 32) (h3 : byteI s i ≠ 34) : clk s i 1 = clk s (i + 1) 1 := by
  rw [clk_unfold s i 1 h, if_neg (by simp), if_neg (by decide), if_pos rfl, if_neg h1, if_neg h2, if_neg h3]
theorem clk_2c (h : i < s.size) (hb : byteI s i = 58) : clk s i 2 = clk s (i + 1) 3 := by
  rw [clk_unfold s i 2 h, if_neg (by rw [hb]; decide), if_neg (by decide), if_neg (by decide), if_pos rfl, if_neg (by omega)]
theorem clk_2x (h : i < s.size) (hs : sp (byteI s i) = false) (hb : byteI s i ≠ 58) : clk s i 2 = false := by
  rw [clk_unfold s i 2 h, if_neg (by rw [hs]; simp), if_neg (by decide), if_neg (by decide), if_pos rfl, if_pos hb]
theorem clk_3 (h : i < s.size) (hs : sp (byteI s i) = false) : clk s i 3 = decide (48 ≤ byteI s i ∧ byteI s i ≤ 57) := by
  rw [clk_unfold s i 3 h, if_neg (by rw [hs]; simp), if_neg (by decide), if_neg (by decide), if_neg (by decide)]
/-- White space between the parts is passed over. -/
theorem clk_skip {st : Nat} (h1 : st ≠ 1) : ∀ d i, i + d ≤ s.size → (∀ j, i ≤ j → j < i + d → sp (byteI s j) = true) → clk s i st = clk s (i + d) st
  | 0, _, _, _ => rfl
  | d + 1, i, h, ha => by
    rw [clk_sp (by omega) h1 (ha i (by omega) (by omega)), clk_skip h1 d (i + 1) (by omega) (fun j a b => ha j (by omega) (by omega))]
    congr 1
    omega
end

/-! ### The small callees -/
set_option maxHeartbeats 400000 in
theorem jsonSpace_any (c : Int) (h0 : 0 ≤ c) (h1 : c < 256) (w : World) :
    Calls Try.prog 22 #[.int .u8 c] w fun e w' => e = .returned (.bool (sp c)) ∧ w = w' := by
  by_cases h : c = 32 ∨ c = 9 ∨ c = 10 ∨ c = 13
  · have HS : Hid (sp c = true) := sp_yes h
    rcases h with rfl | rfl | rfl | rfl
    all_goals
      go_enter Try.func22, Try.ntmps22
      go_wp2
      go_ret
      exact ⟨ret_bool HS.out.symm, rfl⟩
  · have HS : Hid (sp c = false) := sp_no h
    have q1 : (c == 32) = false := beq_eq_false_iff_ne.2 (by omega)
    have q2 : (c == 9) = false := beq_eq_false_iff_ne.2 (by omega)
    have q3 : (c == 10) = false := beq_eq_false_iff_ne.2 (by omega)
    have q4 : (c == 13) = false := beq_eq_false_iff_ne.2 (by omega)
    clear h
    go_enter Try.func22, Try.ntmps22
    go_wp2
    go_ret
    exact ⟨ret_bool HS.out.symm, rfl⟩

set_option maxHeartbeats 400000 in
theorem isJSONSpace_any (c : Int) (h0 : 0 ≤ c) (h1 : c < 256) (w : World) :
    Calls Try.prog 18 #[.int .u8 c] w fun e w' => e = .returned (.bool (sp c)) ∧ w = w' := by
  by_cases h : c = 32 ∨ c = 9 ∨ c = 10 ∨ c = 13
  · have HS : Hid (sp c = true) := sp_yes h
    rcases h with rfl | rfl | rfl | rfl
    all_goals
      go_enter Try.func18, Try.ntmps18
      go_wp2
      go_ret
      exact ⟨ret_bool HS.out.symm, rfl⟩
  · have HS : Hid (sp c = false) := sp_no h
    have q1 : (c == 32) = false := beq_eq_false_iff_ne.2 (by omega)
    have q2 : (c == 9) = false := beq_eq_false_iff_ne.2 (by omega)
    have q3 : (c == 10) = false := beq_eq_false_iff_ne.2 (by omega)
    have q4 : (c == 13) = false := beq_eq_false_iff_ne.2 (by omega)
    clear h
    go_enter Try.func18, Try.ntmps18
    go_wp2
    go_ret
    exact ⟨ret_bool HS.out.symm, rfl⟩

theorem jsonSpace_b (c : Int) (b : Bool) (H : Hid (sp c = b)) (h0 : 0 ≤ c) (h1 : c < 256) (w : World) :
    Calls Try.prog 22 #[.int .u8 c] w fun e w' => e = .returned (.bool b) ∧ w = w' := by
  rw [← H.out]
  exact jsonSpace_any c h0 h1 w
theorem isJSONSpace_b (c : Int) (b : Bool) (H : Hid (sp c = b)) (h0 : 0 ≤ c) (h1 : c < 256) (w : World) :
    Calls Try.prog 18 #[.int .u8 c] w fun e w' => e = .returned (.bool b) ∧ w = w' := by
  rw [← H.out]
  exact isJSONSpace_any c h0 h1 w

/-- skipSpaceB1: the first index at or after i without white space, or the end. -/
def Skips (s : ByteArray) (i k : Nat) : Prop := i ≤ k ∧ k ≤ s.size ∧ (∀ j, i ≤ j → j < k → sp (byteI s j) = true) ∧ (k < s.size → sp (byteI s k) = false)

set_option maxHeartbeats 400000 in
theorem skip_any (s : ByteArray) (i : Nat) (hs : (s.size : Int) ≤ 1048576) (hi : i ≤ s.size) (w : World) :
    Calls Try.prog 21 #[.string s, .int .i64 i] w fun e w' => (∃ k : Nat, e = .returned (.int .i64 k) ∧ Skips s i k) ∧ w = w' := by
  go_enter Try.func21, Try.ntmps21
  go_wp2
  go_loop [1] (fun t => ∃ k : Nat, i ≤ k ∧ k ≤ s.size ∧ t = .int .i64 k ∧ ∀ j, i ≤ j → j < k → sp (byteI s j) = true) (fun t => s.size - (intOf t).toNat)
  case atStart => exact ⟨i, Nat.le_refl _, hi, rfl, fun j h1 h2 => by omega⟩
  case round =>
    obtain ⟨k, hik, hk, rfl, hall⟩ := hrel
    have HA : Hid (∀ j, i ≤ j → j < k → sp (byteI s j) = true) := hall
    clear hall
    by_cases hlt : k < s.size
    · have hx := byteI_get s k hlt
      obtain ⟨c, hc⟩ : ∃ c, byteI s k = c := ⟨_, rfl⟩
      have hr := byteI_rng s k
      rw [hc] at hx hr
      have HC : Hid (byteI s k = c) := hc
      clear hc
      by_cases hsp : sp c = true
      · have HS : Hid (sp c = true) := hsp
        clear hsp
        go_wp2_with (go_at_call 18; refine (isJSONSpace_b c true HS (by omega) (by omega) _).mono ?_; rintro e w' ⟨rfl, rfl⟩)
        go_round
        case rel => exact ⟨k + 1, by omega, by omega, by go_num, fun j h1 h2 => by
          by_cases e : j = k
          · subst e; rw [HC.out]; exact HS.out
          · exact HA.out j h1 (by omega)⟩
        case measure => simp [intOf]; omega
      · have HS : Hid (sp c = false) := Bool.eq_false_iff.2 hsp
        clear hsp
        go_wp2_with (go_at_call 18; refine (isJSONSpace_b c false HS (by omega) (by omega) _).mono ?_; rintro e w' ⟨rfl, rfl⟩)
        go_ret
        exact ⟨⟨k, rfl, hik, hk, HA.out, fun _ => by rw [HC.out]; exact HS.out⟩, rfl⟩
    · go_wp2_with fail
      go_ret
      exact ⟨⟨k, rfl, hik, hk, HA.out, fun h => absurd h hlt⟩, rfl⟩

end Go.Proofs.Qxb6602730a
