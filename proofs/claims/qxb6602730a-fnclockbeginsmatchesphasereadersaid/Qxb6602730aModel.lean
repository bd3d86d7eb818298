import Derived.Test.Qxb6602730aClock
namespace Go.Proofs.Qxb6602730a
open Go.RowKit
set_option linter.unusedVariables false

theorem skips_clk {s : ByteArray} {i k st : Nat} (h : Skips s i k) (h1 : st ≠ 1) : clk s i st = clk s k st := by
  obtain ⟨a, b, c, _⟩ := h
  have := clk_skip (s := s) (st := st) h1 (k - i) i (by omega) (fun j h2 h3 => c j h2 (by omega))
  rwa [show i + (k - i) = k from by omega] at this

theorem skip_int (s : ByteArray) (a : Int) (i : Nat) (ha : a = (i : Int)) (hs : (s.size : Int) ≤ 1048576) (hi : i ≤ s.size) (w : World) :
    Calls Try.prog 21 #[.string s, .int .i64 a] w fun e w' => (∃ k : Nat, e = .returned (.int .i64 k) ∧ Skips s i k) ∧ w = w' := by
  subst ha
  exact skip_any s i hs hi w

set_option maxHeartbeats 2000000 in
theorem model_any (s : ByteArray) (hs : (s.size : Int) ≤ 1048576) (w : World) :
    Calls Try.prog 15 #[.string s] w fun e w' => e = .returned (.bool (clk s 1 0)) ∧ w = w' := by
  obtain ⟨R, hR⟩ : ∃ R, clk s 1 0 = R := ⟨_, rfl⟩
  rw [hR]
  have HR : Hid (clk s 1 0 = R) := hR
  clear hR
  by_cases hlen : s.size ≤ 1
  · have HF : Hid (R = false) := by rw [← HR.out, clk_end hlen]; rfl
    go_enter Try.func15, Try.ntmps15
    go_wp2_with fail
    go_ret
    exact ⟨ret_bool HF.out.symm, rfl⟩
  · have hsk := skip_any s 1 hs (by omega)
    have HSK : Hid (∀ w : World, Calls Try.prog 21 #[.string s, .int .i64 (1 : Nat)] w fun e w' => (∃ k : Nat, e = .returned (.int .i64 k) ∧ Skips s 1 k) ∧ w = w') := hsk
    clear hsk
    go_enter Try.func15, Try.ntmps15
    go_wp2_with fail
    refine (HSK.out _).mono ?_
    rintro e w1 ⟨⟨q, rfl, hq⟩, rfl⟩
    have hq1 := hq.1
    have hq2 := hq.2.1
    have HQ : Hid (Skips s 1 q) := hq
    clear hq
    have HKQ : Hid (clk s q 0 = R) := by rw [← HR.out]; exact (skips_clk HQ.out (by decide)).symm
    by_cases hqe : q = s.size
    · have HF : Hid (R = false) := by rw [← HKQ.out, clk_end (by omega)]; rfl
      subst hqe
      go_wp2_with fail
      go_ret
      exact ⟨ret_bool HF.out.symm, rfl⟩
    · have hql : q < s.size := by omega
      have hx := byteI_get s q hql
      obtain ⟨c, hc⟩ : ∃ c, byteI s q = c := ⟨_, rfl⟩
      rw [hc] at hx
      have HC : Hid (byteI s q = c) := hc
      have HS : Hid (sp c = false) := by rw [← hc]; exact HQ.out.2.2.2 hql
      clear hc
      have hqe1 : ((q : Int) == (s.size : Int)) = false := beq_eq_false_iff_ne.2 (by omega)
      by_cases hquo : c = 34
      · subst hquo
        have HK1 : Hid (clk s (q + 1) 1 = R) := by rw [← HKQ.out]; exact (clk_0q hql HC.out).symm
        clear hqe
        go_wp2_with fail
        go_loop [4, 5] (fun t u => ∃ j : Nat, q + 1 ≤ j ∧ j ≤ s.size + 1 ∧ t = .int .i64 j ∧ ((u = .int .i64 (-1) ∧ clk s j 1 = R) ∨ (u = .int .i64 j ∧ j < s.size ∧ clk s (j + 1) 2 = R))) (fun t u => (2 * ((s.size : Int) + 2 - intOf t) - (intOf u + 1)).toNat)
        case atStart => exact ⟨q + 1, Nat.le_refl _, by omega, by go_num, .inl ⟨rfl, HK1.out⟩⟩
        case round =>
          obtain ⟨j, hj1, hj2, rfl, hst⟩ := hrel
          rcases hst with ⟨rfl, hcl⟩ | ⟨rfl, hjl, hcl⟩
          · have HK : Hid (clk s j 1 = R) := hcl
            clear hcl
            by_cases hlt : j < s.size
            · have hy := byteI_get s j hlt
              obtain ⟨d, hd⟩ : ∃ d, byteI s j = d := ⟨_, rfl⟩
              rw [hd] at hy
              have HD : Hid (byteI s j = d) := hd
              clear hd
              by_cases h34 : d = 34
              · subst h34
                go_wp2_with fail
                go_round
                case rel => exact ⟨j, hj1, hj2, rfl, .inr ⟨rfl, hlt, by rw [← HK.out]; exact (clk_1q hlt HD.out).symm⟩⟩
                case measure => simp [intOf]; omega
              · by_cases h92 : d = 92
                · subst h92
                  clear h34
                  go_wp2_with fail
                  go_round
                  case rel => exact ⟨j + 2, by omega, by omega, by go_num, .inl ⟨rfl, by rw [← HK.out]; exact (clk_1b hlt HD.out).symm⟩⟩
                  case measure => simp [intOf]; omega
                · have e34 : (d == 34) = false := beq_eq_false_iff_ne.2 h34
                  have e92 : (d == 92) = false := beq_eq_false_iff_ne.2 h92
                  by_cases hlow : d < 32
                  · have HF : Hid (R = false) := by rw [← HK.out]; exact clk_1c hlt (by rw [HD.out]; exact h92) (by rw [HD.out]; exact hlow)
                    clear h34 h92
                    go_wp2_with fail
                    go_ret
                    exact ⟨ret_bool HF.out.symm, rfl⟩
                  · have HF : Hid (clk s (j + 1) 1 = R) := by rw [← HK.out]; exact (clk_1x hlt (by rw [HD.out]; exact h92) (by rw [HD.out]; exact hlow) (by rw [HD.out]; exact h34)).symm
                    clear h34 h92
                    go_wp2_with fail
                    go_round
                    case rel => exact ⟨j + 1, by omega, by omega, by go_num, .inl ⟨rfl, HF.out⟩⟩
                    case measure => simp [intOf]; omega
            · have HF : Hid (R = true) := by rw [← HK.out, clk_end (by omega)]; rfl
              go_wp2_with fail
              go_ret
              exact ⟨ret_bool HF.out.symm, rfl⟩
          · have HK : Hid (clk s (j + 1) 2 = R) := hcl
            clear hcl
            go_wp2_with fail
            refine (skip_int s _ (j + 1) (by omega) hs (by omega) _).mono ?_
            rintro e w2 ⟨⟨k, rfl, hk⟩, rfl⟩
            have hk1 := hk.1
            have hk2 := hk.2.1
            have HKS : Hid (Skips s (j + 1) k) := hk
            clear hk
            have HK2 : Hid (clk s k 2 = R) := by rw [← HK.out]; exact (skips_clk HKS.out (by decide)).symm
            by_cases hke : k = s.size
            · have HF : Hid (R = true) := by rw [← HK2.out, clk_end (by omega)]; rfl
              subst hke
              go_wp2_with fail
              go_ret
              exact ⟨ret_bool HF.out.symm, rfl⟩
            · have hkl : k < s.size := by omega
              have hy := byteI_get s k hkl
              obtain ⟨d, hd⟩ : ∃ d, byteI s k = d := ⟨_, rfl⟩
              rw [hd] at hy
              have HD : Hid (byteI s k = d) := hd
              have HDS : Hid (sp d = false) := by rw [← hd]; exact HKS.out.2.2.2 hkl
              clear hd
              have hke1 : ((k : Int) == (s.size : Int)) = false := beq_eq_false_iff_ne.2 (by omega)
              clear hke
              by_cases h58 : d = 58
              · subst h58
                have HK3 : Hid (clk s (k + 1) 3 = R) := by rw [← HK2.out]; exact (clk_2c hkl HD.out).symm
                go_wp2_with fail
                refine (skip_int s _ (k + 1) (by omega) hs (by omega) _).mono ?_
                rintro e w3 ⟨⟨m, rfl, hm⟩, rfl⟩
                have hm1 := hm.1
                have hm2 := hm.2.1
                have HMS : Hid (Skips s (k + 1) m) := hm
                clear hm
                have HM : Hid (clk s m 3 = R) := by rw [← HK3.out]; exact (skips_clk HMS.out (by decide)).symm
                by_cases hme : m = s.size
                · have HF : Hid (R = true) := by rw [← HM.out, clk_end (by omega)]; rfl
                  subst hme
                  go_wp2_with fail
                  go_ret
                  exact ⟨ret_bool HF.out.symm, rfl⟩
                · have hml : m < s.size := by omega
                  have hz := byteI_get s m hml
                  obtain ⟨b, hb⟩ : ∃ b, byteI s m = b := ⟨_, rfl⟩
                  rw [hb] at hz
                  have HF : Hid (R = decide (48 ≤ b ∧ b ≤ 57)) := by rw [← HM.out, ← hb]; exact clk_3 hml (HMS.out.2.2.2 hml)
                  clear hb
                  have hme1 : ((m : Int) == (s.size : Int)) = false := beq_eq_false_iff_ne.2 (by omega)
                  clear hme
                  by_cases hlo : 48 ≤ b
                  · by_cases hhi : b ≤ 57
                    · go_wp2_with fail
                      go_ret
                      exact ⟨ret_bool (by rw [HF.out, decide_eq_true ⟨hlo, hhi⟩]), rfl⟩
                    · go_wp2_with fail
                      go_ret
                      exact ⟨ret_bool (by rw [HF.out, decide_eq_false (p := 48 ≤ b ∧ b ≤ 57) (fun h => by omega), decide_eq_false (p := b ≤ 57) (by omega)]), rfl⟩
                  · go_wp2_with fail
                    go_ret
                    exact ⟨ret_bool (by rw [HF.out]; exact (decide_eq_false (p := 48 ≤ b ∧ b ≤ 57) (fun h => by omega)).symm), rfl⟩
              · have HF : Hid (R = false) := by rw [← HK2.out]; exact clk_2x hkl (by rw [HD.out]; exact HDS.out) (by rw [HD.out]; exact h58)
                have e58 : (d != 58) = true := by rw [bne_iff_ne]; exact h58
                clear h58
                go_wp2_with fail
                go_ret
                exact ⟨ret_bool HF.out.symm, rfl⟩
      · have HF : Hid (R = false) := by rw [← HKQ.out]; exact clk_0x hql (by rw [HC.out]; exact HS.out) (by rw [HC.out]; exact hquo)
        have hquo1 : (c != 34) = true := by rw [bne_iff_ne]; exact hquo
        clear hquo hqe
        go_wp2_with fail
        go_ret
        exact ⟨ret_bool HF.out.symm, rfl⟩

end Go.Proofs.Qxb6602730a
