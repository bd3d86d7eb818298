import Derived.Test.Qxb6603957aSlide
namespace Go.Proofs.Qxb6603957a
open Go.RowKit
set_option linter.unusedVariables false

set_option maxHeartbeats 400000 in
theorem law_no (a b d : Option Addr) (n m k ca cb cd : Nat) (w : World) (h1 : n ≤ maxLen) (h2 : m ≤ maxLen) (h3 : k ≤ maxLen) (h : ¬ (n : Int) + (m : Int) + (k : Int) ≤ 1048576) :
    Calls Try.prog 3 #[.slice a n ca, .slice b m cb, .slice d k cd] w fun e w' => e = .returned (.bool true) ∧ Below w.heap.size w w' := by
  go_enter Try.func3, Try.ntmps3
  go_wp2_with (go_at_call 4; refine (zzbytes_no _ _ _ _ _ _ _ _ _ _ h1 h2 h3 h).mono ?_; rintro e w' ⟨rfl, rfl⟩)
  go_ret
  exact ⟨rfl, Below.refl _ _⟩

set_option maxHeartbeats 400000 in
theorem law_long (a b d : Option Addr) (n m k ca cb cd : Nat) (w : World) (h : (n : Int) + (m : Int) + (k : Int) ≤ 1048576) (hl : ¬ ((n : Int) ≤ 65536 ∧ (m : Int) ≤ 65536 ∧ (k : Int) ≤ 65536)) :
    Calls Try.prog 3 #[.slice a n ca, .slice b m cb, .slice d k cd] w fun e w' => e = .returned (.bool true) ∧ Below w.heap.size w w' := by
  by_cases q1 : (65536 : Int) < (n : Int)
  · clear hl
    go_enter Try.func3, Try.ntmps3
    go_wp2_with (go_at_call 4; refine (zzbytes_yes _ _ _ _ _ _ _ _ _ _ h).mono ?_; rintro e w' ⟨rfl, rfl⟩)
    go_ret
    exact ⟨rfl, Below.refl _ _⟩
  · by_cases q2 : (65536 : Int) < (m : Int)
    · clear hl
      go_enter Try.func3, Try.ntmps3
      go_wp2_with (go_at_call 4; refine (zzbytes_yes _ _ _ _ _ _ _ _ _ _ h).mono ?_; rintro e w' ⟨rfl, rfl⟩)
      go_ret
      exact ⟨rfl, Below.refl _ _⟩
    · have q3 : (65536 : Int) < (k : Int) := by omega
      clear hl
      go_enter Try.func3, Try.ntmps3
      go_wp2_with (go_at_call 4; refine (zzbytes_yes _ _ _ _ _ _ _ _ _ _ h).mono ?_; rintro e w' ⟨rfl, rfl⟩)
      go_ret
      exact ⟨rfl, Below.refl _ _⟩

set_option maxHeartbeats 400000 in
theorem law_neq (a b d : Option Addr) (n m k ca cb cd : Nat) (w : World) (h1 : (n : Int) ≤ 65536) (h2 : (m : Int) ≤ 65536) (h3 : (k : Int) ≤ 65536) (hne : ¬ m = n) :
    Calls Try.prog 3 #[.slice a n ca, .slice b m cb, .slice d k cd] w fun e w' => e = .returned (.bool true) ∧ Below w.heap.size w w' := by
  have hq : ((m : Int) != (n : Int)) = true := by rw [bne_iff_ne]; omega
  clear hne
  go_enter Try.func3, Try.ntmps3
  go_wp2_with (go_at_call 4; refine (zzbytes_yes _ _ _ _ _ _ _ _ _ _ (by omega)).mono ?_; rintro e w' ⟨rfl, rfl⟩)
  go_ret
  exact ⟨rfl, Below.refl _ _⟩

set_option maxHeartbeats 400000 in
theorem law_more (a b d : Option Addr) (n k ca cb cd : Nat) (C O : Nat → Bool) (w : World) (h1 : (n : Int) ≤ 65536) (h3 : (k : Int) ≤ 65536) (hs1 : Sl w b n (boolsF C)) (hs2 : Sl w d k (boolsF O)) (hF : fc O k < fc C n) :
    Calls Try.prog 3 #[.slice a n ca, .slice b n cb, .slice d k cd] w fun e w' => e = .returned (.bool true) ∧ Below w.heap.size w w' := by
  have H1 : Hid (Sl w b n (boolsF C)) := hs1
  have H2 : Hid (Sl w d k (boolsF O)) := hs2
  clear hs1 hs2
  go_enter Try.func3, Try.ntmps3
  go_wp2_with (go_at_call 4; refine (zzbytes_yes _ _ _ _ _ _ _ _ _ _ (by omega)).mono ?_; rintro e w' ⟨rfl, rfl⟩)
  refine (falses_any _ _ _ C _ (by omega) H1.out).mono ?_
  rintro e w' ⟨rfl, rfl⟩
  go_wp2_with fail
  refine (falses_any _ _ _ O _ (by omega) H2.out).mono ?_
  rintro e w' ⟨rfl, rfl⟩
  go_wp2_with fail
  go_ret
  exact ⟨rfl, Below.refl _ _⟩

theorem bot_cut {n e : Nat} {D : Nat → Bool} (h : Bot n D e) : e < n → D e = true → Top D e := fun h1 h2 => by
  rw [h h1] at h2
  cases h2

theorem Cloned.sl {w w' : World} {a : Option Addr} {T : TypeId} {n : Nat} {f : Nat → Value} (h : Cloned w w' a T n f) : Sl w' a n f := by
  intro hn
  obtain ⟨rfl, hr⟩ := h.2 hn
  exact hr.sl hn

set_option maxHeartbeats 2000000 in
set_option maxRecDepth 1000000 in
theorem law_run (a0 a1 a2 : Option Addr) (n m c0 c1 c2 : Nat) (L : Nat → Int) (C O : Nat → Bool) (w : World) (hn : (n : Int) ≤ 65536) (hm : (m : Int) ≤ 65536)
    (ha0 : a0 = none → n = 0) (ha1 : a1 = none → n = 0) (ha2 : a2 = none → m = 0) (hs0 : Sl w a0 n (intsF L)) (hs1 : Sl w a1 n (boolsF C)) (hs2 : Sl w a2 m (boolsF O)) (hF : fc C n ≤ fc O m) :
    Calls Try.prog 3 #[.slice a0 n c0, .slice a1 n c1, .slice a2 m c2] w fun e w' => e = .returned (.bool true) ∧ Below w.heap.size w w' := by
  have HA0 : Hid (a0 = none → n = 0) := ha0
  have HA1 : Hid (a1 = none → n = 0) := ha1
  have HA2 : Hid (a2 = none → m = 0) := ha2
  have H0 : Hid (Sl w a0 n (intsF L)) := hs0
  have H1 : Hid (Sl w a1 n (boolsF C)) := hs1
  have H2 : Hid (Sl w a2 m (boolsF O)) := hs2
  clear ha0 ha1 ha2 hs0 hs1 hs2
  have hq : ((n : Int) != (n : Int)) = false := by rw [bne_eq_false_iff_eq]
  go_enter Try.func3, Try.ntmps3
  go_wp2_with (go_at_call 4; refine (zzbytes_yes _ _ _ _ _ _ _ _ _ _ (by omega)).mono ?_; rintro e w' ⟨rfl, rfl⟩)
  refine (falses_any _ _ _ C _ (by omega) H1.out).mono ?_
  rintro e w' ⟨rfl, rfl⟩
  go_wp2_with fail
  refine (falses_any _ _ _ O _ (by omega) H2.out).mono ?_
  rintro e w' ⟨rfl, rfl⟩
  go_wp2_with fail
  refine (cloneInts_any _ _ _ L _ (by omega) HA0.out H0.out).mono ?_
  rintro e w1 ⟨b0, rfl, hc0⟩
  have HC0 : Hid (Cloned w w1 b0 3 n (intsF L)) := hc0
  have hB1 := hc0.1
  clear hc0
  go_wp2_with fail
  refine (cloneBools_any _ _ _ C _ (by omega) HA1.out (H1.out.below hB1)).mono ?_
  rintro e w2 ⟨b1, rfl, hc1⟩
  have HC1 : Hid (Cloned w1 w2 b1 4 n (boolsF C)) := hc1
  have hB2 := hc1.1
  have hB2' : Below w.heap.size w w2 := hB1.trans (hB2.mono hB1.size)
  clear hc1
  go_wp2_with fail
  refine (cloneBools_any _ _ _ O _ (by omega) HA2.out (H2.out.below hB2')).mono ?_
  rintro e w3 ⟨b2, rfl, hc2⟩
  have HC2 : Hid (Cloned w2 w3 b2 4 m (boolsF O)) := hc2
  have hB3 := hc2.1
  have hB3' : Below w.heap.size w w3 := hB2'.trans (hB3.mono hB2'.size)
  clear hc2
  have hz1 := hB1.size
  have hz2 := hB2.size
  have hz3 := hB3.size
  -- the row of 'changed'
  obtain ⟨gc, hgc0, hgc1, hgc2, hgc3, hgc4⟩ : ∃ gc : Nat, (0 < n → b1 = some ⟨gc, 0, none⟩ ∧ Row w3 gc 4 n (boolsF C)) ∧ w.heap.size ≤ gc ∧ (0 < m → w2.heap.size ≠ gc) ∧ (0 < n → w.heap.size ≠ gc) ∧ (0 < n → gc < w3.heap.size) := by
    by_cases h0 : 0 < n
    · obtain ⟨e1, r1⟩ := HC1.out.2 h0
      have l1 := r1.lt
      have l0 := (HC0.out.2 h0).2.lt
      exact ⟨w1.heap.size, fun _ => ⟨e1, r1.below hB3 l1⟩, by omega, fun _ => by omega, fun _ => by omega, fun _ => by omega⟩
    · exact ⟨w3.heap.size, fun h => absurd h h0, by omega, fun hm0 => by have := (HC2.out.2 hm0).2.lt; omega, fun h => absurd h h0, fun h => absurd h h0⟩
  have HG0 : Hid (0 < n → b1 = some ⟨gc, 0, none⟩ ∧ Row w3 gc 4 n (boolsF C)) := hgc0
  have HG2 : Hid (0 < m → w2.heap.size ≠ gc) := hgc2
  have HG3 : Hid (0 < n → w.heap.size ≠ gc) := hgc3
  have HG4 : Hid (0 < n → gc < w3.heap.size) := hgc4
  have HGL : Hid (0 < n → b0 = some ⟨w.heap.size, 0, none⟩ ∧ Row w3 w.heap.size 3 n (intsF L)) := fun h => ⟨(HC0.out.2 h).1, by
    have r := (HC0.out.2 h).2
    have l := r.lt
    exact (r.below hB2 l).below hB3 (by omega)⟩
  clear hgc0 hgc2 hgc3 hgc4
  go_wp2_with fail
  refine (zzslide_any _ _ _ n m _ _ _ w.heap.size gc L C O _ hn hm HGL.out HG0.out HC2.out.sl HG3.out HG4.out hF).mono ?_
  rintro e w4 ⟨rfl, D, hD1, hD2, hD3, hg4⟩
  have HD1 : Hid (0 < n → Row w4 gc 4 n (boolsF D)) := hD1
  have HD2 : Hid (RestTo n L (hitTo O m) D n) := hD2
  have HD3 : Hid (fc D n = fc C n) := hD3
  have hB4 : Below w.heap.size w w4 := hB3'.grown hg4 (by omega) (fun k hk => by cases hk; exact hgc1)
  have hz4 := hg4.size
  have HO4 : Hid (0 < m → b2 = some ⟨w2.heap.size, 0, none⟩ ∧ Row w4 w2.heap.size 4 m (boolsF O)) := fun h => ⟨(HC2.out.2 h).1, (HC2.out.2 h).2.kept hg4 (by simpa using HG2.out h)⟩
  have HL4 : Hid (0 < n → b0 = some ⟨w.heap.size, 0, none⟩ ∧ Row w4 w.heap.size 3 n (intsF L)) := fun h => ⟨(HGL.out h).1, (HGL.out h).2.kept hg4 (by simpa using HG3.out h)⟩
  have HC4 : Hid (0 < n → b1 = some ⟨gc, 0, none⟩) := fun h => (HG0.out h).1
  clear hD1 hD2 hD3 hg4 HG0 HG2 HG3 HGL HC0 HC1 HC2 hB1 hB2 hB2' hB3 hB3' HA0 HA1 HA2 H0 H1 H2
  go_wp2_with fail
  refine (falses_any _ _ _ O _ (by omega) (fun h => by obtain ⟨rfl, r⟩ := HO4.out h; exact r.sl h)).mono ?_
  rintro e w' ⟨rfl, rfl⟩
  obtain ⟨i0, hi, hi0, hi1, hi2⟩ := info_parts Try.info4
  have hfm := fc_le O m
  go_wp2_with (at_make; refine wpList_make_full _ rfl _ _ 23 rfl w.heap.size 4 i0 (.bool false) 1 Try.underlying23 hi hi0 hi1 _ _ _ _ (fc O m + 1) rfl rfl (by omega) (by omega) ?b2 ?b3 hB4.size ?_)
  case b2 => rw [hi2]; omega
  case b3 => unfold maxLen; omega
  intro w5 hown hgrow
  have hR5 : Row w5 w4.heap.size 4 (fc O m + 1) (boolsF (hitTo O 0)) := Row.of_made hown
  have hB5 : Below w.heap.size w w5 := hB4.grown hgrow hB4.size (fun k h => by cases h)
  have hz5 := hgrow.size
  have HO5 : Hid (0 < m → b2 = some ⟨w2.heap.size, 0, none⟩ ∧ w2.heap.size ≠ w4.heap.size ∧ Row w5 w2.heap.size 4 m (boolsF O)) := fun h => ⟨(HO4.out h).1, by have := (HO4.out h).2.lt; omega, (HO4.out h).2.kept hgrow (by simp)⟩
  have HL5 : Hid (0 < n → b0 = some ⟨w.heap.size, 0, none⟩ ∧ w.heap.size ≠ w4.heap.size ∧ Row w5 w.heap.size 3 n (intsF L)) := fun h => ⟨(HL4.out h).1, by have := (HL4.out h).2.lt; omega, (HL4.out h).2.kept hgrow (by simp)⟩
  have HC5 : Hid (0 < n → b1 = some ⟨gc, 0, none⟩ ∧ gc ≠ w4.heap.size ∧ Row w5 gc 4 n (boolsF D)) := fun h => ⟨HC4.out h, by have := (HD1.out h).lt; omega, (HD1.out h).kept hgrow (by simp)⟩
  have hgh : w.heap.size ≤ w4.heap.size := hB4.size
  obtain ⟨gh, hghe⟩ : ∃ gh, w4.heap.size = gh := ⟨_, rfl⟩
  rw [hghe] at HO5 HL5 HC5 hR5 hgh
  clear hown hgrow HO4 HL4 HC4 HD1 hB4 hi hi0 hi1 hi2 HG4 hz1 hz2 hz3 hz4 hgc1 hz5
  rw [hghe]
  clear hghe
  go_wp2_with fail
  go_loopg [9, 10] m (fun k tn ti wr => ∃ i : Nat, k = m - i ∧ i ≤ m ∧ ti = .int .i64 i ∧ tn = .int .i64 (fc O i) ∧ Row wr gh 4 (fc O m + 1) (boolsF (hitTo O i)) ∧ w5.grownBy wr (some gh))
  case atStart => go_light; exact ⟨0, rfl, Nat.zero_le _, rfl, rfl, hR5, World.grownBy.refl _ _⟩
  case round =>
    obtain ⟨i, rfl, hi, rfl, rfl, hRr, hgr⟩ := hrel
    clear hR5
    have hfi := (fc_mono O hi).1
    by_cases hlt : i < m
    · obtain ⟨hb2, hne2, hro⟩ := HO5.out (by omega)
      subst hb2
      have c1 : wr.cell? ⟨w2.heap.size, i, none⟩ = some (.bool (O i)) := (hro.kept hgr (by simpa using hne2)).cell i hlt
      cases hOi : O i with
      | true =>
        rw [hOi] at c1
        have c2 := hRr.cell (fc O i) (by omega)
        have f2 := hRr.free (fc O i)
        have HR2 : Hid (Row (wr.setCell ⟨gh, fc O i, none⟩ (.bool true)) gh 4 (fc O m + 1) (boolsF (hitTo O (i + 1)))) := (hRr.set (fc O i) (.bool true)).congr (fun j hj => by
          rw [hitTo_yes hOi]
          by_cases e : j = fc O i
          · rw [if_pos e, e]
            show _ = Value.bool (put (hitTo O i) (fc O i) true (fc O i))
            rw [put_same]
          · rw [if_neg e]
            show _ = Value.bool (put (hitTo O i) (fc O i) true j)
            rw [put_other _ _ e]
            rfl)
        have HF2 : Hid (fc O (i + 1) = fc O i) := fc_yes hOi
        unfold boolsF at c2
        have hb1 : (fc O i : Int) < (fc O m : Int) + 1 := by omega
        clear hOi hro
        go_wp2_with fail
        go_roundg (m - (i + 1))
        case measure => go_light; omega
        case rel => go_light; exact ⟨i + 1, rfl, by omega, by go_num, by rw [HF2.out], HR2.out, grown_trans hgr (grown_setCell _ _ _ _)⟩
      | false =>
        rw [hOi] at c1
        have HR2 : Hid (Row wr gh 4 (fc O m + 1) (boolsF (hitTo O (i + 1)))) := by rw [hitTo_no hOi]; exact hRr
        have HF2 : Hid (fc O (i + 1) = fc O i + 1) := fc_no hOi
        clear hOi hro
        go_wp2_with fail
        go_roundg (m - (i + 1))
        case measure => go_light; omega
        case rel => go_light; exact ⟨i + 1, rfl, by omega, by go_num, by rw [HF2.out]; go_num, HR2.out, hgr⟩
    · obtain rfl : i = m := by omega
      clear hlt hi
      have HL6 : Hid (0 < n → b0 = some ⟨w.heap.size, 0, none⟩ ∧ Row wr w.heap.size 3 n (intsF L)) := fun h => ⟨(HL5.out h).1, (HL5.out h).2.2.kept hgr (by simpa using (HL5.out h).2.1)⟩
      have HC6 : Hid (0 < n → b1 = some ⟨gc, 0, none⟩ ∧ Row wr gc 4 n (boolsF D)) := fun h => ⟨(HC5.out h).1, (HC5.out h).2.2.kept hgr (by simpa using (HC5.out h).2.1)⟩
      have hB6 : Below w.heap.size w wr := hB5.grown hgr hB5.size (fun k hk => by cases hk; exact hgh)
      obtain ⟨H, hH⟩ : ∃ H, hitTo O i = H := ⟨_, rfl⟩
      rw [hH] at hRr HD2
      clear HL5 HC5 HO5 hgr hB5 hH
      obtain ⟨w6, hw6⟩ : ∃ x, x = wr := ⟨wr, rfl⟩
      subst hw6
      go_wp2_with fail
      go_loopg [11, 12] n (fun k tg ts wr => ∃ s : Nat, k = n - s ∧ s ≤ n ∧ ts = .int .i64 s ∧ tg = .int .i64 (fc D s) ∧ (s < n → D s = true → Top D s) ∧ Below w6.heap.size w6 wr)
      case atStart => go_light; exact ⟨0, rfl, Nat.zero_le _, rfl, rfl, fun _ _ => Top.zero, Below.refl _ _⟩
      case round =>
        obtain ⟨s, rfl, hsn, rfl, rfl, hcutS, hBr⟩ := hrel
        have hfs := (fc_mono D hsn).1
        rw [HD3.out] at hfs
        have hfl := fc_le D s
        by_cases hs : s < n
        · obtain ⟨hb0, hrl⟩ := HL6.out (by omega)
          obtain ⟨hb1, hrc⟩ := HC6.out (by omega)
          subst hb0
          subst hb1
          have hrl' := hrl.below hBr hrl.lt
          have hrc' := hrc.below hBr hrc.lt
          have hrh' := hRr.below hBr hRr.lt
          clear hrl hrc
          have c1 : wr.cell? ⟨gc, s, none⟩ = some (.bool (D s)) := hrc'.cell s hs
          cases hDs : D s with
          | false =>
            rw [hDs] at c1
            have HF1 : Hid (fc D (s + 1) = fc D s + 1) := fc_no hDs
            have HT1 : Hid (Top D (s + 1)) := Top.of hDs
            clear hDs hcutS
            go_wp2_with fail
            go_roundg (n - (s + 1))
            case measure => go_light; omega
            case rel => go_light; exact ⟨s + 1, rfl, by omega, by go_num, by rw [HF1.out]; go_num, fun _ _ => HT1.out, hBr⟩
          | true =>
            rw [hDs] at c1
            have HT1 : Hid (Top D s) := hcutS hs hDs
            have HDs : Hid (D s = true) := hDs
            clear hDs hcutS
            go_upto_block 4 with fail
            clear c1
            go_cut [13] from 68 to 120 (fun te wx => ∃ e : Nat, te = .int .i64 e ∧ s < e ∧ e ≤ n ∧ (∀ j, s ≤ j → j < e → D j = true) ∧ Bot n D e ∧ wx = wr)
            case first =>
              go_wp2_with fail
              go_loopg [13] (n - (s + 1)) (fun k te wx => wx = wr ∧ ∃ e : Nat, k = n - e ∧ te = .int .i64 e ∧ s < e ∧ e ≤ n ∧ ∀ j, s ≤ j → j < e → D j = true)
              case atStart => go_light; exact ⟨rfl, s + 1, rfl, by go_num, by omega, by omega, fun j h1 h2 => by obtain rfl : j = s := (by omega); exact HDs.out⟩
              case round =>
                obtain ⟨rfl, e, rfl, rfl, hse, hen, hall⟩ := hrel
                have HAll : Hid (∀ j, s ≤ j → j < e → D j = true) := hall
                clear hall
                by_cases he : e < n
                · have c2 : wr.cell? ⟨gc, e, none⟩ = some (.bool (D e)) := hrc'.cell e he
                  cases hDe : D e with
                  | true =>
                    rw [hDe] at c2
                    have HDe : Hid (D e = true) := hDe
                    clear hDe
                    go_wp2_with fail
                    go_roundg (n - (e + 1))
                    case measure => go_light; omega
                    case rel => go_light; exact ⟨rfl, e + 1, rfl, by go_num, by omega, by omega, fun j h1 h2 => by
                      by_cases q : j = e
                      · subst q; exact HDe.out
                      · exact HAll.out j h1 (by omega)⟩
                  | false =>
                    rw [hDe] at c2
                    have HB2 : Hid (Bot n D e) := Bot.of hDe
                    clear hDe
                    go_wp2_with fail
                    go_meet
                    case rel => go_light; exact ⟨e, rfl, hse, hen, HAll.out, HB2.out, rfl⟩
                · go_wp2_with fail
                  go_meet
                  case rel => go_light; exact ⟨e, rfl, hse, hen, HAll.out, Bot.end_ (by omega), rfl⟩
            case rest =>
              obtain ⟨e, rfl, hse, hen, hall, hbot, rfl⟩ := hcut
              have hfe : fc D e = fc D s := by
                have := fc_all (C := D) (i := s) (e - s) (fun j h1 h2 => hall j h1 (by omega))
                rwa [show s + (e - s) = e from by omega] at this
              have HFE : Hid (fc D e = fc D s) := hfe
              have hrest := HD2.out s e ⟨hse, hen, hall, HT1.out, hbot⟩ hen
              have HBot : Hid (Bot n D e) := hbot
              clear hfe hall hbot
              have hbg : (fc D s : Int) < (fc O i : Int) + 1 := by omega
              have hbs : (s : Int) < (n : Int) := by omega
              obtain ⟨hb, hhb⟩ : ∃ hb, H (fc D s) = hb := ⟨_, rfl⟩
              have c3 : wc.cell? ⟨gh, fc D s, none⟩ = some (.bool (H (fc D s))) := hrh'.cell (fc D s) (by omega)
              rw [hhb] at hrest c3
              clear hhb
              cases hb with
              | true =>
                clear hrest
                go_wp2_with fail
                go_quiet (fail)
                go_wp2_with fail
                go_roundg (n - e)
                case measure => go_light; omega
                case rel => go_light; exact ⟨e, rfl, hen, rfl, by rw [HFE.out], bot_cut HBot.out, below_drewN hBr _⟩
              | false =>
                by_cases hen2 : e = n
                · have hd : decide ((e : Int) < (n : Int)) = false := decide_eq_false (by omega)
                  clear hrest
                  go_wp2_with fail
                  go_quiet (fail)
                  go_wp2_with fail
                  go_roundg (n - e)
                  case measure => go_light; omega
                  case rel => go_light; exact ⟨e, rfl, hen, by rw [hen2], by rw [HFE.out], bot_cut HBot.out, below_drewN hBr _⟩
                · have hLL : L s ≠ L e := by
                    rcases hrest with h | h | h
                    · cases h
                    · exact absurd h hen2
                    · exact h
                  have hLb : (L s == L e) = false := beq_eq_false_iff_ne.2 hLL
                  have hbe : (e : Int) < (n : Int) := by omega
                  have c4 : wc.cell? ⟨w.heap.size, s, none⟩ = some (.int .i64 (L s)) := hrl'.cell s hs
                  have c5 : wc.cell? ⟨w.heap.size, e, none⟩ = some (.int .i64 (L e)) := hrl'.cell e (by omega)
                  clear hrest hLL hen2
                  go_wp2_with fail
                  go_quiet (fail)
                  go_wp2_with fail
                  go_roundg (n - e)
                  case measure => go_light; omega
                  case rel => go_light; exact ⟨e, rfl, hen, rfl, by rw [HFE.out], bot_cut HBot.out, below_drewN hBr _⟩
        · obtain rfl : s = n := by omega
          go_wp2_with fail
          go_ret
          exact ⟨rfl, hB6.trans (hBr.mono hB6.size)⟩

end Go.Proofs.Qxb6603957a
