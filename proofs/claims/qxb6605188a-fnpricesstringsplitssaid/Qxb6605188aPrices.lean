import Derived.Test.Qxb6605188aBytes
import Derived.Room.AppendFits
namespace Go.Proofs.Qxb6605188a
open Go.RowKit
set_option linter.unusedVariables false

set_option maxHeartbeats 400000 in
theorem newPrices_any (s : ByteArray) (w : World) :
    Calls Try.prog 15 #[.string s] w fun e w' => e = .returned (.agg #[.string s]) ∧ Below w.heap.size w w' := by
  go_enter Try.func15, Try.ntmps15
  go_wp2
  refine bodyPost_ret (v := .agg #[.string s]) (by simp [results, Try.results15, go_sem]) rfl ⟨rfl, below_own0 _ _⟩

set_option maxHeartbeats 400000 in
theorem plen_any (s : ByteArray) (w : World) (hs : (s.size : Int) ≤ 1048576) :
    Calls Try.prog 21 #[.agg #[.string s]] w fun e w' => e = .returned (.int .i64 ((s.size : Int) / 8)) ∧ Below w.heap.size w w' := by
  go_enter Try.func21, Try.ntmps21
  go_wp2
  go_ret
  exact ⟨rfl, below_own0 _ _⟩

set_option maxHeartbeats 400000 in
theorem at_any (s : ByteArray) (i : Nat) (w : World) (hs : (s.size : Int) ≤ 1048576) (hi : (i + 1) * 8 ≤ s.size) :
    Calls Try.prog 22 #[.agg #[.string s], .int .i64 i] w fun e w' => e = .returned (.string (s.extract (i * 8) ((i + 1) * 8))) ∧ Below w.heap.size w w' := by
  go_enter Try.func22, Try.ntmps22
  go_wp2
  go_ret
  exact ⟨rfl, below_own0 _ _⟩
/-! ### String -/
/-- The inside of the brackets, the first k prices. -/
def pbody (l : List UInt8) : Nat → List UInt8
  | 0 => []
  | k + 1 => pbody l k ++ ((if k = 0 then [] else [32]) ++ (l.drop (k * 8)).take 8)
/-- String, plain. -/
def pstr (l : List UInt8) : List UInt8 := 91 :: pbody l (l.length / 8) ++ [93]

theorem extract_list (s : ByteArray) (i : Nat) : (s.extract (i * 8) ((i + 1) * 8)).data.toList = (s.data.toList.drop (i * 8)).take 8 := by
  rw [ByteArray.data_extract, Array.toList_extract, List.extract_eq_take_drop]
  congr 1
  omega

theorem plen_n (s : ByteArray) (n : Nat) (H : Hid (s.size / 8 = n)) (w : World) (hs : (s.size : Int) ≤ 1048576) :
    Calls Try.prog 21 #[.agg #[.string s]] w fun e w' => e = .returned (.int .i64 n) ∧ Below w.heap.size w w' := by
  refine (plen_any s w hs).mono ?_
  rintro e w' ⟨rfl, hb⟩
  refine ⟨ret_int ?_, hb⟩
  rw [← H.out]
  omega

theorem at_t (s t : ByteArray) (i : Nat) (H : Hid (s.extract (i * 8) ((i + 1) * 8) = t)) (w : World) (hs : (s.size : Int) ≤ 1048576) (hi : (i + 1) * 8 ≤ s.size) :
    Calls Try.prog 22 #[.agg #[.string s], .int .i64 i] w fun e w' => e = .returned (.string t) ∧ Below w.heap.size w w' := by
  rw [← H.out]
  exact at_any s i w hs hi

theorem box_of {s : ByteArray} {w w1 : World} (h : Below (w.heap.size + 1) (w.alloc (.cells #[.string s] 29)) w1) : w1.cell? ⟨w.heap.size, 0, none⟩ = some (.string s) := by
  rw [h.cell (p := ⟨w.heap.size, 0, none⟩) (Nat.lt_succ_self _)]
  simp

theorem below_step {B g : Nat} {a w w1 : World} {o : Obj} (h : Below B a w) (hB : B ≤ w.heap.size) (hg : (w.alloc o).grownBy w1 (some g)) (hBg : B ≤ g) : Below B a w1 :=
  (h.alloc hB o).grown hg (by simp; omega) (fun k hk => by cases hk; exact hBg)

theorem one_news {w : World} {x : Value} {T : TypeId} : ∀ (j : Nat) (u : Value), [x][j]? = some u → (w.alloc (.cells #[x] T)).cell? ((⟨w.heap.size, 0, none⟩ : Addr).add j) = some u := by
  intro j u hj
  match j, hj with
  | 0, hj => simp at hj; subst hj; simp [Addr.add]
theorem one_cell1 {x : Value} (h : x.oneCell' = true) : ∀ u ∈ [x], u.oneCell' = true := by
  intro u hu
  simp at hu
  subst hu
  exact h

theorem pcells_zero {l : List UInt8} {t : ByteArray} (h : t.data.toList = (l.drop (0 * 8)).take 8) : cellsB (91 :: pbody l (0 + 1)) = cellsB (91 :: pbody l 0) ++ Lib.strCells t := by
  rw [cellsB_str, h, ← cellsB_append]
  rfl
theorem pcells_succ {l : List UInt8} {t : ByteArray} {k : Nat} (hk : k ≠ 0) (h : t.data.toList = (l.drop (k * 8)).take 8) : cellsB (91 :: pbody l (k + 1)) = (cellsB (91 :: pbody l k) ++ [.int .u8 32]) ++ Lib.strCells t := by
  rw [cellsB_str, h]
  show cellsB (91 :: (pbody l k ++ ((if k = 0 then [] else [32]) ++ (l.drop (k * 8)).take 8))) = _
  rw [if_neg hk]
  simp [cellsB]
theorem pcells_end (l : List UInt8) (n : Nat) : cellsB (91 :: pbody l n ++ [93]) = cellsB (91 :: pbody l n) ++ [.int .u8 93] := by
  rw [cellsB_append]
  rfl

set_option maxHeartbeats 1000000 in
theorem string_any (s : ByteArray) (w : World) (hs : (s.size : Int) ≤ 1048576) :
    Calls Try.prog 16 #[.agg #[.string s]] w fun e w' => e = .returned (.string ⟨(pstr s.data.toList).toArray⟩) ∧ Below w.heap.size w w' := by
  obtain ⟨i0, hi, hz0, hz1, hz2⟩ := info_parts Try.info5
  obtain ⟨n, hn⟩ : ∃ n, s.size / 8 = n := ⟨_, rfl⟩
  have hn1 : n * 8 ≤ s.size := by omega
  have HN : Hid (s.size / 8 = n) := hn
  have HF : Hid (pstr s.data.toList = 91 :: pbody s.data.toList n ++ [93]) := by unfold pstr; rw [show s.data.toList.length / 8 = n from by rw [← hn]; simp]; rfl
  clear hn
  go_enter Try.func16, Try.ntmps16
  go_wp2_with fail
  refine (plen_n s n HN _ hs).mono ?_
  rintro e w1 ⟨rfl, hb1⟩
  have hB1 : Below (w.heap.size + 1) (w.alloc (.cells #[.string s] 29)) w1 := by simpa using hb1
  have hz : w.heap.size + 1 ≤ w1.heap.size := by have := hb1.size; simpa using this
  clear hb1
  go_wp2_with (at_make; refine wpList_make_own _ rfl _ _ 27 rfl (w.heap.size + 1) 5 i0 (.int .u8 0) 1 Try.underlying27 hi hz0 hz1 _ _ _ (2 + n * 9) rfl rfl (by omega) ?b2 ?b3 hz ?_)
  case b2 => rw [hz2]; omega
  case b3 => unfold maxLen; omega
  intro w2 hown2 hgrow2
  have hB2 := hB1.grown hgrow2 hz (fun k h => by cases h)
  have hz2' := hgrow2.size
  obtain ⟨g, hg⟩ : ∃ g, w1.heap.size = g := ⟨_, rfl⟩
  clear hgrow2
  rw [hg] at hown2 hz hz2' ⊢
  clear hg
  go_wp2_with (at_builtin; refine wpList_append_fits _ rfl (.tmp 10) (.tmp 11) 27 rfl (w.heap.size + 1) 5 i0 1 Try.underlying27 hi hz1 g 0 (2 + n * 9) _ rfl (hown2.alloc _) ⟨w2.heap.size, 0, none⟩ 1 1 [.int .u8 91] rfl rfl one_news (one_cell1 rfl) (by omega) ?_; intro w3 hown3 hgrow3; have hB3 := below_step hB2 (by omega) hgrow3 hz; have hbx3 := box_of hB3; have hz3 := hgrow3.size; clear hgrow3)
  refine (plen_n s n HN _ hs).mono ?_
  rintro e w4 ⟨rfl, hb4⟩
  have hown4 := owns_below hown3 hb4
  have hB4 := hB3.trans (hb4.mono (by simp at hz3; omega))
  have hz4 := hb4.size
  simp at hz3
  clear hown3 hB3 hbx3 hb4 hown2 hB2
  go_wp2_with fail
  go_loopw [3, 15] (fun v i wr => ∃ k L : Nat, k ≤ n ∧ i = .int .i64 k ∧ v = .slice (some ⟨g, 0, none⟩) L (2 + n * 9) ∧ L ≤ 9 * k + 1 ∧ wr.ownsRow (w.heap.size + 1) 5 1 (.slice (some ⟨g, 0, none⟩) L (2 + n * 9)) L (cellsB (91 :: pbody s.data.toList k)) ∧ Below (w.heap.size + 1) (w.alloc (.cells #[.string s] 29)) wr ∧ w.heap.size + 1 ≤ wr.heap.size) (fun _ i _ => n - (intOf i).toNat)
  case atStart => exact ⟨0, 1, Nat.zero_le _, rfl, rfl, by omega, hown4, hB4, by omega⟩
  case round =>
    obtain ⟨k, L, hk, rfl, rfl, hL, hown, hB, hzr⟩ := hrel
    have hbx := box_of hB
    by_cases hlt : k < n
    · obtain ⟨t, ht⟩ : ∃ t, s.extract (k * 8) ((k + 1) * 8) = t := ⟨_, rfl⟩
      have htl : t.data.toList = (s.data.toList.drop (k * 8)).take 8 := by rw [← ht, extract_list]
      have hts : t.size = 8 := by
        have := congrArg List.length htl
        simp at this
        omega
      have HT : Hid (s.extract (k * 8) ((k + 1) * 8) = t) := ht
      have HL : Hid (t.data.toList = (s.data.toList.drop (k * 8)).take 8) := htl
      clear ht htl
      by_cases hk0 : k = 0
      · subst hk0
        have hts' : t.size ≤ 8 := by omega
        have HS : Hid (t.size = 8) := hts
        clear hts
        go_wp2_with fail
        refine (at_t s t 0 HT _ hs (by omega)).mono ?_
        rintro e w5 ⟨rfl, hb5⟩
        have hown5 := owns_below hown hb5
        have hB5 := hB.trans (hb5.mono hzr)
        have hz5 := hb5.size
        go_wp2_with (at_builtin; refine Lib.wpList_append_fits_string _ rfl (.tmp 23) (.tmp 26) 27 9 rfl (w.heap.size + 1) 5 i0 Try.underlying27 Try.underlying9 hi hz1 (some ⟨g, 0, none⟩) L (2 + n * 9) _ rfl hown5 t rfl (by omega) (by omega) ?_; intro w6 hown6 hgrow6)
        go_roundw
        case rel => exact ⟨0 + 1, L + t.size, by omega, by go_num, rfl, by omega, by rw [pcells_zero HL.out]; exact hown6, hB5.grown hgrow6 (by omega) (fun k hk => by cases hk; exact hz), by have := hgrow6.size; omega⟩
        case measure => simp [intOf]; omega
      · have hts' : t.size ≤ 8 := by omega
        clear hts
        go_wp2_with (at_builtin; refine wpList_append_fits _ rfl (.tmp 20) (.tmp 21) 27 rfl (w.heap.size + 1) 5 i0 1 Try.underlying27 hi hz1 g L (2 + n * 9) _ rfl (hown.alloc _) ⟨wr.heap.size, 0, none⟩ 1 1 [.int .u8 32] rfl rfl one_news (one_cell1 rfl) (by omega) ?_; intro w5 hown5 hgrow5; have hB5 := below_step hB (by omega) hgrow5 hz; have hbx5 := box_of hB5; have hz5 := hgrow5.size; clear hgrow5)
        simp at hz5
        refine (at_t s t k HT _ hs (by omega)).mono ?_
        rintro e w6 ⟨rfl, hb6⟩
        have hown6 := owns_below hown5 hb6
        have hB6 := hB5.trans (hb6.mono (by omega))
        have hz6 := hb6.size
        clear hbx5 hbx hb6
        go_wp2_with (at_builtin; refine Lib.wpList_append_fits_string _ rfl (.tmp 23) (.tmp 26) 27 9 rfl (w.heap.size + 1) 5 i0 Try.underlying27 Try.underlying9 hi hz1 (some ⟨g, 0, none⟩) (L + 1) (2 + n * 9) _ rfl hown6 t rfl (by omega) (by omega) ?_; intro w7 hown7 hgrow7)
        go_roundw
        case rel => exact ⟨k + 1, L + 1 + t.size, by omega, by go_num, rfl, by omega, by rw [pcells_succ hk0 HL.out]; exact hown7, hB6.grown hgrow7 (by omega) (fun k hk => by cases hk; exact hz), by have := hgrow7.size; omega⟩
        case measure => simp [intOf]; omega
    · obtain rfl : k = n := by omega
      go_wp2_with (at_builtin; refine wpList_append_fits _ rfl (.tmp 29) (.tmp 30) 27 rfl (w.heap.size + 1) 5 i0 1 Try.underlying27 hi hz1 g L (2 + k * 9) _ rfl (hown.alloc _) ⟨wr.heap.size, 0, none⟩ 1 1 [.int .u8 93] rfl rfl one_news (one_cell1 rfl) (by omega) ?_; intro w5 hown5 hgrow5; rw [← pcells_end] at hown5; have hcv := conv_owned hown5)
      go_ret
      have hB5 := below_step hB (by omega) hgrow5 hz
      exact ⟨by rw [HF.out]; rfl, (below_own0 w _).trans (hB5.mono (by omega))⟩

end Go.Proofs.Qxb6605188a
