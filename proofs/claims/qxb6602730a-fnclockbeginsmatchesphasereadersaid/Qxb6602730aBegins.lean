import Derived.Test.Qxb6602730aClock
namespace Go.Proofs.Qxb6602730a
open Go.RowKit
set_option linter.unusedVariables false

set_option maxHeartbeats 2000000 in
theorem begins_any (s : ByteArray) (hs : (s.size : Int) ≤ 1048576) (w : World) :
    Calls Try.prog 20 #[.string s] w fun e w' => e = .returned (.bool (clk s 1 0)) ∧ w = w' := by
  obtain ⟨R, hR⟩ : ∃ R, clk s 1 0 = R := ⟨_, rfl⟩
  rw [hR]
  have HR : Hid (clk s 1 0 = R) := hR
  clear hR
  go_enter Try.func20, Try.ntmps20
  go_wp2
  go_loop [3, 4] (fun t i => ∃ k : Nat, 1 ≤ k ∧ k ≤ s.size + 2 ∧ i = .int .i64 k ∧ ((t = .int .i64 0 ∧ clk s k 0 = R) ∨ (t = .int .i64 1 ∧ clk s k 1 = R) ∨ (t = .int .i64 2 ∧ clk s k 2 = R) ∨ (t = .int .i64 3 ∧ clk s k 3 = R))) (fun _ i => s.size + 2 - (intOf i).toNat)
  case atStart => exact ⟨1, Nat.le_refl _, by omega, rfl, .inl ⟨rfl, HR.out⟩⟩
  case round =>
    obtain ⟨k, hk1, hk, rfl, hst⟩ := hrel
    by_cases hlt : k < s.size
    · have hx := byteI_get s k hlt
      obtain ⟨c, hc⟩ : ∃ c, byteI s k = c := ⟨_, rfl⟩
      have hr := byteI_rng s k
      rw [hc] at hx hr
      have HC : Hid (byteI s k = c) := hc
      clear hc
      rcases hst with ⟨rfl, hcl⟩ | ⟨rfl, hcl⟩ | ⟨rfl, hcl⟩ | ⟨rfl, hcl⟩
      · -- the brace
        have HK : Hid (clk s k 0 = R) := hcl
        clear hcl
        by_cases hsp : sp c = true
        · have HS : Hid (sp c = true) := hsp
          clear hsp
          go_wp2_with (go_at_call 22; refine (jsonSpace_b c true HS (by omega) (by omega) _).mono ?_; rintro e w' ⟨rfl, rfl⟩)
          go_round
          case rel => exact ⟨k + 1, by omega, by omega, by go_num, .inl ⟨rfl, by rw [← HK.out]; exact (clk_sp hlt (by decide) (by rw [HC.out]; exact HS.out)).symm⟩⟩
          case measure => simp [intOf]; omega
        · have HS : Hid (sp c = false) := Bool.eq_false_iff.2 hsp
          clear hsp
          by_cases hq : c = 34
          · subst hq
            go_wp2_with (go_at_call 22; refine (jsonSpace_b 34 false HS (by omega) (by omega) _).mono ?_; rintro e w' ⟨rfl, rfl⟩)
            go_round
            case rel => exact ⟨k + 1, by omega, by omega, by go_num, .inr (.inl ⟨rfl, by rw [← HK.out]; exact (clk_0q hlt HC.out).symm⟩)⟩
            case measure => simp [intOf]; omega
          · have hq1 : (c != 34) = true := by rw [bne_iff_ne]; exact hq
            have HF : Hid (R = false) := by rw [← HK.out]; exact clk_0x hlt (by rw [HC.out]; exact HS.out) (by rw [HC.out]; exact hq)
            clear hq
            go_wp2_with (go_at_call 22; refine (jsonSpace_b c false HS (by omega) (by omega) _).mono ?_; rintro e w' ⟨rfl, rfl⟩)
            go_ret
            exact ⟨ret_bool HF.out.symm, rfl⟩
      · -- the name
        have HK : Hid (clk s k 1 = R) := hcl
        clear hcl
        by_cases hb : c = 92
        · subst hb
          go_wp2_with fail
          go_round
          case rel => exact ⟨k + 2, by omega, by omega, by go_num, .inr (.inl ⟨rfl, by rw [← HK.out]; exact (clk_1b hlt HC.out).symm⟩)⟩
          case measure => simp [intOf]; omega
        · by_cases hq : c = 34
          · subst hq
            clear hb
            go_wp2_with fail
            go_round
            case rel => exact ⟨k + 1, by omega, by omega, by go_num, .inr (.inr (.inl ⟨rfl, by rw [← HK.out]; exact (clk_1q hlt HC.out).symm⟩))⟩
            case measure => simp [intOf]; omega
          · have hb1 : (c == 92) = false := beq_eq_false_iff_ne.2 hb
            have hq1 : (c == 34) = false := beq_eq_false_iff_ne.2 hq
            by_cases hlow : c < 32
            · have HF : Hid (R = false) := by rw [← HK.out]; exact clk_1c hlt (by rw [HC.out]; exact hb) (by rw [HC.out]; exact hlow)
              clear hb hq
              go_wp2_with fail
              go_ret
              exact ⟨ret_bool HF.out.symm, rfl⟩
            · have HF : Hid (clk s (k + 1) 1 = R) := by rw [← HK.out]; exact (clk_1x hlt (by rw [HC.out]; exact hb) (by rw [HC.out]; exact hlow) (by rw [HC.out]; exact hq)).symm
              clear hb hq
              go_wp2_with fail
              go_round
              case rel => exact ⟨k + 1, by omega, by omega, by go_num, .inr (.inl ⟨rfl, HF.out⟩)⟩
              case measure => simp [intOf]; omega
      · -- the name's end
        have HK : Hid (clk s k 2 = R) := hcl
        clear hcl
        by_cases hsp : sp c = true
        · have HS : Hid (sp c = true) := hsp
          clear hsp
          go_wp2_with (go_at_call 22; refine (jsonSpace_b c true HS (by omega) (by omega) _).mono ?_; rintro e w' ⟨rfl, rfl⟩)
          go_round
          case rel => exact ⟨k + 1, by omega, by omega, by go_num, .inr (.inr (.inl ⟨rfl, by rw [← HK.out]; exact (clk_sp hlt (by decide) (by rw [HC.out]; exact HS.out)).symm⟩))⟩
          case measure => simp [intOf]; omega
        · have HS : Hid (sp c = false) := Bool.eq_false_iff.2 hsp
          clear hsp
          by_cases hq : c = 58
          · subst hq
            go_wp2_with (go_at_call 22; refine (jsonSpace_b 58 false HS (by omega) (by omega) _).mono ?_; rintro e w' ⟨rfl, rfl⟩)
            go_round
            case rel => exact ⟨k + 1, by omega, by omega, by go_num, .inr (.inr (.inr ⟨rfl, by rw [← HK.out]; exact (clk_2c hlt HC.out).symm⟩))⟩
            case measure => simp [intOf]; omega
          · have hq1 : (c != 58) = true := by rw [bne_iff_ne]; exact hq
            have HF : Hid (R = false) := by rw [← HK.out]; exact clk_2x hlt (by rw [HC.out]; exact HS.out) (by rw [HC.out]; exact hq)
            clear hq
            go_wp2_with (go_at_call 22; refine (jsonSpace_b c false HS (by omega) (by omega) _).mono ?_; rintro e w' ⟨rfl, rfl⟩)
            go_ret
            exact ⟨ret_bool HF.out.symm, rfl⟩
      · -- the colon
        have HK : Hid (clk s k 3 = R) := hcl
        clear hcl
        by_cases hsp : sp c = true
        · have HS : Hid (sp c = true) := hsp
          clear hsp
          go_wp2_with (go_at_call 22; refine (jsonSpace_b c true HS (by omega) (by omega) _).mono ?_; rintro e w' ⟨rfl, rfl⟩)
          go_round
          case rel => exact ⟨k + 1, by omega, by omega, by go_num, .inr (.inr (.inr ⟨rfl, by rw [← HK.out]; exact (clk_sp hlt (by decide) (by rw [HC.out]; exact HS.out)).symm⟩))⟩
          case measure => simp [intOf]; omega
        · have HS : Hid (sp c = false) := Bool.eq_false_iff.2 hsp
          clear hsp
          have HF : Hid (R = decide (48 ≤ c ∧ c ≤ 57)) := by rw [← HK.out, ← HC.out]; exact clk_3 hlt (by rw [HC.out]; exact HS.out)
          by_cases hlo : 48 ≤ c
          · by_cases hhi : c ≤ 57
            · go_wp2_with (go_at_call 22; refine (jsonSpace_b c false HS (by omega) (by omega) _).mono ?_; rintro e w' ⟨rfl, rfl⟩)
              go_ret
              exact ⟨ret_bool (by rw [HF.out, decide_eq_true ⟨hlo, hhi⟩]), rfl⟩
            · go_wp2_with (go_at_call 22; refine (jsonSpace_b c false HS (by omega) (by omega) _).mono ?_; rintro e w' ⟨rfl, rfl⟩)
              go_ret
              exact ⟨ret_bool (by rw [HF.out, decide_eq_false (p := 48 ≤ c ∧ c ≤ 57) (fun h => by omega), decide_eq_false (p := c ≤ 57) (by omega)]), rfl⟩
          · go_wp2_with (go_at_call 22; refine (jsonSpace_b c false HS (by omega) (by omega) _).mono ?_; rintro e w' ⟨rfl, rfl⟩)
            go_ret
            exact ⟨ret_bool (by rw [HF.out]; exact (decide_eq_false (p := 48 ≤ c ∧ c ≤ 57) (fun h => by omega)).symm), rfl⟩
    · rcases hst with ⟨rfl, hcl⟩ | ⟨rfl, hcl⟩ | ⟨rfl, hcl⟩ | ⟨rfl, hcl⟩
      all_goals
        rw [clk_end (by omega)] at hcl
        have HK : Hid (_ = R) := hcl
        clear hcl
        go_wp2_with fail
        go_ret
        exact ⟨ret_bool HK.out, rfl⟩

set_option maxHeartbeats 400000 in
theorem zzbegins_any (s : ByteArray) (hs : (s.size : Int) ≤ 1048576) (w : World) :
    Calls Try.prog 14 #[.string s] w fun e w' => e = .returned (.bool (clk s 1 0)) ∧ w = w' := by
  go_enter Try.func14, Try.ntmps14
  go_wp2_with (go_at_call 20; refine (begins_any _ hs _).mono ?_; rintro e w' ⟨rfl, rfl⟩)
  go_ret
  exact ⟨rfl, rfl⟩

end Go.Proofs.Qxb6602730a
