import Derived.Test.Qxb6602730aShift
import Derived.ProofKit
import Derived.OpenShut
import Derived.ShutString
import Derived.ChangeOld
import Derived.Below
namespace Go.Proofs.Qxb6602730a.fnShiftUndoneByShiftingBack
open Go.ChangeShapes Go.WideShapes Go.ChangeAt Go.RowKit
open Go.ChangeMaps (open_string shut_string)
set_option linter.unusedVariables false

theorem own : ownKnob Try.prog.godebug = none := by kernel_rfl
theorem laidOut : laidOutB Try.prog = true := by kernel_rfl

/-- WHAT THE WALK IS TOLD OF A SLICE OF INTEGERS THAT CAME IN: it is nil; or it leads to a row of 'cap' cells, the numbers 'zs' (the first 'len' are its elements, the rest its spare room), each fitting its kind. -/
def IsRow (k : IntKind) (w : World) (a : Option Addr) (len cap : Nat) (zs : List Int) : Prop :=
  (a = none ∧ len = 0 ∧ cap = 0 ∧ zs = []) ∨
  ∃ x, a = some x ∧ len ≤ cap ∧ cap ≤ maxLen ∧ zs.length = cap ∧ (∀ i, i < zs.length → w.cell? (x.add i) = some (.int k (zs.getD i 0))) ∧ ∀ n ∈ zs, (Lit.int k n).wf = true

/-! ### THE PLAIN LAW -/
theorem sh_back {b x : Int} (hb : 0 ≤ b) (hx : x ≤ 9223372036854775807 - b) (hlo : -9223372036854775808 ≤ x) : sh (-b) (sh b x) = x := by
  by_cases h : 0 ≤ x
  · rw [sh_pos h, IntWalk.wrap64_in (x + b) (by omega), sh_pos (by omega), IntWalk.wrap64_in _ (by omega)]
    omega
  · rw [sh_neg h, sh_neg h]
theorem map_back {b : Int} (hb : 0 ≤ b) : ∀ l : List Int, (∀ x ∈ l, x ≤ 9223372036854775807 - b ∧ -9223372036854775808 ≤ x) → (l.map (sh b)).map (sh (-b)) = l
  | [], _ => rfl
  | x :: l, h => by
    have h0 := h x (List.mem_cons_self)
    rw [List.map_cons, List.map_cons, sh_back hb h0.1 h0.2, map_back hb l (fun y hy => h y (List.mem_cons_of_mem _ hy))]

/-! ### STEP 1: THE WALK -/
set_option maxHeartbeats 400000 in
theorem walk_no (a : Option Addr) (n c : Nat) (by_ : Int) (w : World) (hm : n ≤ maxLen) (h : (1048576 : Int) < (n : Int)) :
    Calls Try.prog 3 #[.slice a n c, .int .i64 by_] w fun e w' => e = .returned (.bool true) ∧ Below w.heap.size w w' := by
  go_enter Try.func3, Try.ntmps3
  go_wp2_with (go_at_call 8; refine (zzbytes8_no _ _ _ _ _ hm h).mono ?_; rintro e w' ⟨rfl, rfl⟩)
  go_ret
  exact ⟨rfl, Below.refl _ _⟩

set_option maxHeartbeats 400000 in
theorem walk_long (a : Option Addr) (n c : Nat) (by_ : Int) (w : World) (hs : (n : Int) ≤ 1048576) (h : (131072 : Int) < (n : Int)) :
    Calls Try.prog 3 #[.slice a n c, .int .i64 by_] w fun e w' => e = .returned (.bool true) ∧ Below w.heap.size w w' := by
  go_enter Try.func3, Try.ntmps3
  go_wp2_with (go_at_call 8; refine (zzbytes8_yes _ _ _ _ _ hs).mono ?_; rintro e w' ⟨rfl, rfl⟩)
  go_ret
  exact ⟨rfl, Below.refl _ _⟩

set_option maxHeartbeats 400000 in
theorem walk_neg (a : Option Addr) (n c : Nat) (by_ : Int) (w : World) (hs : (n : Int) ≤ 131072) (h : by_ < 0) :
    Calls Try.prog 3 #[.slice a n c, .int .i64 by_] w fun e w' => e = .returned (.bool true) ∧ Below w.heap.size w w' := by
  go_enter Try.func3, Try.ntmps3
  go_wp2_with (go_at_call 8; refine (zzbytes8_yes _ _ _ _ _ (by omega)).mono ?_; rintro e w' ⟨rfl, rfl⟩)
  go_ret
  exact ⟨rfl, Below.refl _ _⟩

set_option maxHeartbeats 400000 in
theorem walk_nil (by_ : Int) (w : World) (h : 0 ≤ by_) (hb : by_ ≤ 9223372036854775807) :
    Calls Try.prog 3 #[.slice none 0 0, .int .i64 by_] w fun e w' => e = .returned (.bool true) ∧ Below w.heap.size w w' := by
  go_enter Try.func3, Try.ntmps3
  go_wp2_with (go_at_call 8; refine (zzbytes8_yes _ _ _ _ _ (by omega)).mono ?_; rintro e w' ⟨rfl, rfl⟩)
  refine wp_loop_rounds 1 ?_
  rw [rounds_succ]
  go_wp2_with fail
  refine (clone_nil _).mono ?_
  rintro e w1 ⟨rfl, rfl⟩
  go_wp2_with fail
  refine (clone_nil _).mono ?_
  rintro e w1 ⟨rfl, rfl⟩
  go_wp2_with fail
  refine (zzshift_nil _ _).mono ?_
  rintro e w1 ⟨rfl, rfl⟩
  go_wp2_with fail
  refine (zzshift_nil _ _).mono ?_
  rintro e w1 ⟨rfl, rfl⟩
  go_wp2_with fail
  refine (same_nil _).mono ?_
  rintro e w1 ⟨rfl, rfl⟩
  go_wp2_with fail
  go_ret
  exact ⟨rfl, Below.refl _ _⟩

/-- Behind the test on every entry: two clones, two shifts, the comparison. Stated for the clone that the law makes. -/
theorem tail_facts {w w1 w2 : World} {n : Nat} {zs : List Int} (hz : zs.length = n) (hA1 : Arr w1 w.heap.size 3 (ints zs)) (hA2 : Arr w2 w1.heap.size 3 (ints zs)) (hB2 : Below w1.heap.size w1 w2) :
    Arr w2 w.heap.size 3 (ints zs) ∧ w.heap.size ≠ w1.heap.size := ⟨hA1.below hB2 hA1.lt, by have := hA1.lt; omega⟩

set_option maxHeartbeats 1000000 in
theorem walk_some (b off n c : Nat) (zs : List Int) (by_ : Int) (w : World) (h : 0 ≤ by_) (hb : by_ ≤ 9223372036854775807) (hn : (n : Int) ≤ 131072) (hz : n ≤ zs.length) (hbb : b < w.heap.size) (hc : ∀ j, j < n → w.cell? ⟨b, off + j, none⟩ = some (.int .i64 (zs.getD j 0))) (hw : ∀ x ∈ zs, -9223372036854775808 ≤ x) :
    Calls Try.prog 3 #[.slice (some ⟨b, off, none⟩) n c, .int .i64 by_] w fun e w' => e = .returned (.bool true) ∧ Below w.heap.size w w' := by
  have HC : Hid (∀ j, j < n → w.cell? ⟨b, off + j, none⟩ = some (.int .i64 (zs.getD j 0))) := hc
  have HW : Hid (∀ x ∈ zs, -9223372036854775808 ≤ x) := hw
  clear hc hw
  go_enter Try.func3, Try.ntmps3
  go_wp2_with (go_at_call 8; refine (zzbytes8_yes _ _ _ _ _ (by omega)).mono ?_; rintro e w' ⟨rfl, rfl⟩)
  go_loop [5] (fun i => ∃ k : Nat, k ≤ n ∧ i = .int .i64 k ∧ ∀ j, j < k → zs.getD j 0 ≤ 9223372036854775807 - by_) (fun i => n - (intOf i).toNat)
  case atStart => exact ⟨0, Nat.zero_le _, rfl, fun j hj => by omega⟩
  case round =>
    obtain ⟨k, hk, rfl, hall⟩ := hrel
    have HL : Hid (∀ j, j < k → zs.getD j 0 ≤ 9223372036854775807 - by_) := hall
    clear hall
    by_cases hlt : k < n
    · have h1 := HC.out k hlt
      obtain ⟨x, hx⟩ : ∃ x, zs.getD k 0 = x := ⟨_, rfl⟩
      rw [hx] at h1
      have HX : Hid (zs.getD k 0 = x) := hx
      clear hx
      by_cases hbig : 9223372036854775807 - by_ < x
      · go_wp2_with fail
        go_ret
        exact ⟨rfl, Below.refl _ _⟩
      · go_wp2_with fail
        go_round
        case rel => exact ⟨k + 1, by omega, by go_num, fun j hj => by
          by_cases e : j = k
          · subst e; rw [HX.out]; omega
          · exact HL.out j (by omega)⟩
        case measure => simp [intOf]; omega
    · obtain rfl : k = n := by omega
      have hlen : (zs.take k).length = k := by simp; omega
      have hback : ((zs.take k).map (sh by_)).map (sh (-by_)) = zs.take k := map_back h _ (fun x hx => ⟨by
        obtain ⟨j, hj, rfl⟩ := List.mem_iff_getElem.1 hx
        have hj' : j < k := by rw [hlen] at hj; exact hj
        have := HL.out j hj'
        rw [List.getD_eq_getElem?_getD, List.getElem?_eq_getElem (by omega)] at this
        simpa using this, HW.out x (List.mem_of_mem_take hx)⟩)
      have HB : Hid (((zs.take k).map (sh by_)).map (sh (-by_)) = zs.take k) := hback
      have HT : Hid ((zs.take k).length = k) := hlen
      obtain ⟨l, hl⟩ : ∃ l, zs.take k = l := ⟨_, rfl⟩
      rw [hl] at HB HT
      have HLL : Hid (zs.take k = l) := hl
      clear hback hlen hl
      go_wp2_with fail
      refine (clone_some _ _ _ _ zs _ (by omega) hz hbb HC.out).mono ?_
      rintro e w1 ⟨rfl, hA1, hB1⟩
      rw [HLL.out] at hA1
      have hlt1 := hA1.lt
      go_wp2_with fail
      refine (clone_some _ 0 _ _ l _ (by omega) (by rw [HT.out]; exact Nat.le_refl _) hlt1 (fun j hj => by rw [Nat.zero_add]; exact hA1.cell j _ (ints_get _ j (by rw [HT.out]; exact hj)))).mono ?_
      rintro e w2 ⟨rfl, hA2, hB2⟩
      rw [List.take_of_length_le (by rw [HT.out]; exact Nat.le_refl _)] at hA2
      have hA1' := hA1.below hB2 hlt1
      have hlt2 := hB2.size
      go_wp2_with fail
      refine (zzshift_some _ _ l _ _ (by omega) HT.out hA1').mono ?_
      rintro e w3 ⟨rfl, hA3, hg3⟩
      go_wp2_with fail
      refine (zzshift_some _ _ (l.map (sh by_)) _ _ (by omega) (by rw [List.length_map]; exact HT.out) hA3).mono ?_
      rintro e w4 ⟨rfl, hA4, hg4⟩
      rw [HB.out] at hA4
      have hA5 : Arr w4 w1.heap.size 3 (ints l) := (hA2.kept hg3 (by simp; omega)).kept hg4 (by simp; omega)
      go_wp2_with fail
      refine (same_some _ _ _ l _ (by omega) HT.out hA4 hA5).mono ?_
      rintro e w5 ⟨rfl, hB5⟩
      have hs3 := hg3.size
      have hs4 := hg4.size
      go_wp2_with fail
      go_ret
      refine ⟨rfl, ?_⟩
      have q2 : Below w.heap.size w w2 := hB1.trans (hB2.mono (by omega))
      have q3 : Below w.heap.size w w3 := q2.grown hg3 (by omega) (fun j hj => by cases hj; exact Nat.le_refl _)
      have q4 : Below w.heap.size w w4 := q3.grown hg4 (by omega) (fun j hj => by cases hj; exact Nat.le_refl _)
      exact q4.trans (hB5.mono (by omega))

set_option maxHeartbeats 1000000 in
theorem walk_emp (x : Addr) (c : Nat) (by_ : Int) (w : World) (h : 0 ≤ by_) (hb : by_ ≤ 9223372036854775807) :
    Calls Try.prog 3 #[.slice (some x) 0 c, .int .i64 by_] w fun e w' => e = .returned (.bool true) ∧ Below w.heap.size w w' := by
  go_enter Try.func3, Try.ntmps3
  go_wp2_with (go_at_call 8; refine (zzbytes8_yes _ _ _ _ _ (by omega)).mono ?_; rintro e w' ⟨rfl, rfl⟩)
  refine wp_loop_rounds 1 ?_
  rw [rounds_succ]
  go_wp2_with fail
  refine (clone_empty _ _ _).mono ?_
  rintro e w1 ⟨rfl, hA1, hB1⟩
  have hlt1 := hA1.lt
  go_wp2_with fail
  refine (clone_empty _ _ _).mono ?_
  rintro e w2 ⟨rfl, hA2, hB2⟩
  have hA1' := hA1.below hB2 hlt1
  have hlt2 := hB2.size
  go_wp2_with fail
  refine (zzshift_some _ 0 [] _ _ (by omega) rfl hA1').mono ?_
  rintro e w3 ⟨rfl, hA3, hg3⟩
  go_wp2_with fail
  refine (zzshift_some _ 0 [] _ _ (by omega) rfl hA3).mono ?_
  rintro e w4 ⟨rfl, hA4, hg4⟩
  have hA5 : Arr w4 w1.heap.size 3 (ints []) := (hA2.kept hg3 (by simp; omega)).kept hg4 (by simp; omega)
  go_wp2_with fail
  refine (same_some _ _ 0 [] _ (by omega) rfl hA4 hA5).mono ?_
  rintro e w5 ⟨rfl, hB5⟩
  have hs3 := hg3.size
  have hs4 := hg4.size
  go_wp2_with fail
  go_ret
  refine ⟨rfl, ?_⟩
  have q2 : Below w.heap.size w w2 := hB1.trans (hB2.mono (by omega))
  have q3 : Below w.heap.size w w3 := q2.grown hg3 (by omega) (fun j hj => by cases hj; exact Nat.le_refl _)
  have q4 : Below w.heap.size w w4 := q3.grown hg4 (by omega) (fun j hj => by cases hj; exact Nat.le_refl _)
  exact q4.trans (hB5.mono (by omega))

theorem walk (a0 : Option Addr) (len0 cap0 : Nat) (z0 : List Int) (a1 : Int) (w : World) (w0 : IsRow .i64 w a0 len0 cap0 z0) (w1 : (Lit.int .i64 a1).wf = true) :
    Calls Try.prog 3 #[.slice a0 len0 cap0, .int .i64 a1] w fun e w' => e = .returned (.bool true) ∧ Below w.heap.size w w' := by
  have hb := bounds_i64 w1
  have hml : len0 ≤ maxLen := by
    rcases w0 with ⟨_, rfl, _, _⟩ | ⟨x, _, h1, h2, _⟩
    · exact Nat.zero_le _
    · exact Nat.le_trans h1 h2
  by_cases h1 : (len0 : Int) ≤ 1048576
  · by_cases h2 : (len0 : Int) ≤ 131072
    · by_cases h3 : a1 < 0
      · exact walk_neg a0 len0 cap0 a1 w h2 h3
      · rcases w0 with ⟨rfl, rfl, rfl, rfl⟩ | ⟨x, rfl, hl, hm, hz, hcell, hwf⟩
        · exact walk_nil a1 w (by omega) hb.2
        · by_cases h0 : len0 = 0
          · subst h0
            exact walk_emp x cap0 a1 w (by omega) hb.2
          · obtain ⟨b, off, spot⟩ := x
            have hc0 := hcell 0 (by omega)
            have hspot : spot = none := by simpa [Addr.add] using World.cell?_spot hc0
            subst hspot
            have hcell' : ∀ j, j < z0.length → w.cell? ⟨b, off + j, none⟩ = some (.int .i64 (z0.getD j 0)) := fun j hj => by rw [← add_plain]; exact hcell j hj
            exact walk_some b off len0 cap0 z0 a1 w (by omega) hb.2 h2 (by omega) (World.block_lt_of_cell? w _ (hcell' 0 (by omega))) (fun j hj => hcell' j (by omega)) (fun y hy => (bounds_i64 (hwf y hy)).1)
    · exact walk_long a0 len0 cap0 a1 w h1 (by omega)
  · exact walk_no a0 len0 cap0 a1 w hml (by omega)

/-! ### THE ROW's STEP: WRITTEN OUT: LEAVE IT -/
set_option maxRecDepth 100000 in
theorem lifted (os : Os) (started : os.Started) (H : Type) (enc : TypeId × Value → H) :
    ReturnsInHanded {} Try.checked os 3 .any (Rows.fnShiftUndoneByShiftingBackSpec.pre6 enc Try.prog Try.f3 Rows.fnShiftUndoneByShiftingBackRow.domain false) (Rows.fnShiftUndoneByShiftingBackSpec.post enc Try.prog Try.f3 false true false false) := by
  refine returnsInHanded_of_change (C := Try.checked) own started (by kernel_rfl) Try.func3
    (ChangeSpec.witness6 (enc := enc) (C := Try.checked) false ⟨#[], #[.slice none 0 0, .int .i64 0], []⟩ 8 (by kernel_rfl) (by kernel_rfl) (by kernel_rfl) (by kernel_rfl)) ?_
  intro W base args ds gs before hval0 hW hcnd _
  have hval : ∀ (j : Nat) t v, Try.f3.params[j]? = some t → args[j]? = some v → Value.okWide Try.prog W .any base t v := hval0
  have hW' := hW
  obtain ⟨p, q, hA0, hV, rfl, hfz, hnd⟩ := hW
  have hA : DataW.TrodAll enc Try.prog W 0 (fun _ => true) true Try.f3.params.toList args.toList ds p := hA0
  rw [Try.params3] at hA hval
  obtain ⟨v0, vs0, d0, ds0, p0, q0, hargs, rfl, rfl, h0, r0⟩ := trodAll_cons hA
  obtain ⟨v1, vs1, d1, ds1, p1, q1, rfl, rfl, rfl, h1, r1⟩ := trodAll_cons r0
  obtain ⟨rfl, rfl, rfl⟩ := trodAll_nil r1
  obtain rfl : args = #[v0, v1] := by cases args; simp_all
  obtain ⟨rfl, rfl⟩ := trodVars_none hV
  obtain ⟨a0, len0, cap0, rfl⟩ := okWide_slice Try.underlying22 (hval 0 22 v0 rfl rfl)
  have k0 := h0
  have lt0 : ∀ x ∈ p0, x.block < W.heap.size := by obtain ⟨m, hm⟩ := k0; exact DataW.trod_lt m _ _ _ hm
  obtain ⟨z0, w0⟩ : ∃ zs, IsRow .i64 W a0 len0 cap0 zs := by
    obtain ⟨fuel, hf⟩ := h0
    rcases open_ints Try.underlying22 Try.underlying3 (by kernel_rfl) hf with ⟨hcs, _⟩ | ⟨x, l, c, zs, hcs, _, hl, hm, hz, _, hcell, hwz⟩
    · simp [Value.cells] at hcs
      obtain ⟨rfl, rfl, rfl⟩ := hcs
      exact ⟨[], .inl ⟨rfl, rfl, rfl, rfl⟩⟩
    · simp [Value.cells] at hcs
      obtain ⟨rfl, rfl, rfl⟩ := hcs
      exact ⟨zs, .inr ⟨_, rfl, hl, hm, by simpa using hz, hcell, hwz⟩⟩
  obtain ⟨a1, rfl, rfl, rfl, w1⟩ := open_int Try.underlying3 (hval 1 3 v1 rfl rfl) h1
  clear hA0 hval0
  refine (walk a0 len0 cap0 z0 a1 W w0 w1).mono fun e W' ⟨he, bel⟩ => ?_
  subst he
  exact ⟨_, rfl, _, _, _, [], _, [], hW', trodAll_mk1 (shut_bool Try.underlying4 _), (trodAll_cons_mk (Below.trod laidOut (by kernel_rfl) (of_decide_eq_true (by kernel_rfl)) k0 bel lt0) (trodAll_cons_mk (shut_int Try.underlying3 w1) trodAll_mk0)), rfl, bel.frame _, fun h => by cases h⟩

theorem over : Rows.fnShiftUndoneByShiftingBackRow.holds Try.pinned (OpenSpec.ofChange Rows.fnShiftUndoneByShiftingBackSpec) :=
  OpenClaim.holds_of_wide 3 Try.f3 rfl rfl rfl rfl rfl rfl rfl ⟨rfl, rfl, rfl, rfl, rfl⟩ rfl rfl rfl rfl rfl (by kernel_rfl) Try.func3 (by kernel_rfl)
    (of_decide_eq_true (by kernel_rfl)) (by unfold Func.isWrapper; first | (rw [if_pos (by decide +kernel)]; kernel_rfl) | (rw [if_neg (by decide +kernel)]; exact ⟨rfl, rfl⟩))
    (fun os started H enc _ => lifted os started H enc)

/-- ████ THE STATEMENT ████ -/
theorem proved : Rows.FnShiftUndoneByShiftingBackSaid := over
#print axioms proved
end Go.Proofs.Qxb6602730a.fnShiftUndoneByShiftingBack
