import Derived.Test.Qxb6605188aRows
import Derived.WalkKit
import Derived.WalkSpells
import Derived.WalkLawsBesides
import Derived.Deep.QuietTactic
import Derived.BigQuiet
namespace Go.Proofs.Qxb6605188a
open Go.RowKit
set_option linter.unusedVariables false

theorem ret_int {k : IntKind} {a b : Int} (h : a = b) : Ending.returned (.int k a) = .returned (.int k b) := by rw [h]
theorem ret_bool {a b : Bool} (h : a = b) : Ending.returned (.bool a) = .returned (.bool b) := by rw [h]

/-- The byte at i, as a number; 0 where there is none. -/
def byteI (s : ByteArray) (i : Nat) : Int := (s.data.toList.getD i 0).toNat
theorem byteI_get (s : ByteArray) (i : Nat) (h : i < s.size) : (s[i].toNat : Int) = byteI s i := by
  unfold byteI
  rw [List.getD_eq_getElem?_getD, List.getElem?_eq_getElem (by simpa using h)]
  rfl
theorem byteI_rng (s : ByteArray) (i : Nat) : 0 ≤ byteI s i ∧ byteI s i < 256 := by
  unfold byteI
  have := (s.data.toList.getD i 0).toNat_lt
  omega

/-- decimal.digit, plain. -/
def digF (a b : ByteArray) (p : Int) : Int :=
  if p < 0 then (if 0 ≤ (a.size : Int) + p then (byteI a ((a.size : Int) + p).toNat - 48) % 256 else 0)
  else if p < (b.size : Int) then (byteI b p.toNat - 48) % 256 else 0

theorem below_own (w : World) (o : Obj) (nq : Nat) : Below w.heap.size w ((w.alloc o).drewN nq) :=
  below_drewN ((Below.refl _ _).alloc (Nat.le_refl _) _) nq
theorem below_own0 (w : World) (o : Obj) : Below w.heap.size w (w.alloc o) :=
  ((Below.refl _ _).alloc (Nat.le_refl _) _)

set_option maxHeartbeats 400000 in
theorem digit_any (a b : ByteArray) (p : Int) (w : World) (hlo : -9223372036854775808 ≤ p) (hhi : p ≤ 9223372036854775807) (hs : (a.size : Int) ≤ 1048576) (ht : (b.size : Int) ≤ 1048576) :
    Calls Try.prog 20 #[.agg #[.string a, .string b], .int .i64 p] w fun e w' => e = .returned (.int .i64 (digF a b p)) ∧ Below w.heap.size w w' := by
  by_cases hp : p < 0
  · by_cases h0 : 0 ≤ (a.size : Int) + p
    · go_enter Try.func20, Try.ntmps20
      go_wp2
      go_quiet (fail)
      go_wp2
      go_ret
      exact ⟨ret_int (by rw [byteI_get, digF, if_pos hp, if_pos h0]), below_own _ _ _⟩
    · go_enter Try.func20, Try.ntmps20
      go_wp2
      go_quiet (fail)
      go_wp2
      go_ret
      exact ⟨ret_int (by rw [digF, if_pos hp, if_neg (by omega)]), below_own _ _ _⟩
  · by_cases h0 : p < (b.size : Int)
    · go_enter Try.func20, Try.ntmps20
      go_wp2
      go_ret
      exact ⟨ret_int (by rw [byteI_get, digF, if_neg (by omega), if_pos h0]), below_own0 _ _⟩
    · go_enter Try.func20, Try.ntmps20
      go_wp2
      go_ret
      exact ⟨ret_int (by rw [digF, if_neg (by omega), if_neg (by omega)]), below_own0 _ _⟩

set_option maxHeartbeats 400000 in
theorem zzdigit_any (a b : ByteArray) (p : Int) (w : World) (hlo : -9223372036854775808 ≤ p) (hhi : p ≤ 9223372036854775807) (hs : (a.size : Int) ≤ 1048576) (ht : (b.size : Int) ≤ 1048576) :
    Calls Try.prog 12 #[.string a, .string b, .int .i64 p] w fun e w' => e = .returned (.int .i64 (digF a b p)) ∧ Below w.heap.size w w' := by
  go_enter Try.func12, Try.ntmps12
  go_wp2_with (go_at_call 20; refine (digit_any _ _ _ _ hlo hhi hs ht).mono ?_; rintro e w' ⟨rfl, hb⟩)
  go_ret
  exact ⟨rfl, by assumption⟩

/-- The bound on lengths, two strings and an int. -/
def fitsB (a b : ByteArray) : Bool := decide ((a.size : Int) + (b.size : Int) ≤ 1048576)

set_option maxHeartbeats 400000 in
theorem zzbytes11_yes (a b : ByteArray) (p : Int) (w : World) (h : (a.size : Int) + (b.size : Int) ≤ 1048576) :
    Calls Try.prog 11 #[.string a, .string b, .int .i64 p] w fun e w' => e = .returned (.bool true) ∧ w' = w := by
  go_enter Try.func11, Try.ntmps11
  go_wp2
  go_ret
  exact ⟨rfl, rfl⟩

set_option maxHeartbeats 400000 in
theorem zzbytes11_no (a b : ByteArray) (p : Int) (w : World) (ha : a.size ≤ maxLen) (hb : b.size ≤ maxLen) (h : ¬ (a.size : Int) + (b.size : Int) ≤ 1048576) :
    Calls Try.prog 11 #[.string a, .string b, .int .i64 p] w fun e w' => e = .returned (.bool false) ∧ w' = w := by
  unfold maxLen at ha hb
  by_cases h1 : (1048576 : Int) < (a.size : Int)
  · go_enter Try.func11, Try.ntmps11
    go_wp2
    go_ret
    exact ⟨rfl, rfl⟩
  · by_cases h2 : (1048576 : Int) < (b.size : Int)
    · go_enter Try.func11, Try.ntmps11
      go_wp2
      go_ret
      exact ⟨rfl, rfl⟩
    · go_enter Try.func11, Try.ntmps11
      go_wp2
      go_ret
      exact ⟨rfl, rfl⟩

end Go.Proofs.Qxb6605188a
