import Derived.Test.Qxb6603957aState
import Derived.Deep.LoopGhost
import Derived.Deep.Cut
import Derived.Deep.CutRange
import Derived.Deep.CutBlock
import Derived.Deep.Light
namespace Go.Proofs.Qxb6603957a
open Go.RowKit
set_option linter.unusedVariables false

theorem one_news {w : World} {x : Value} {T : TypeId} : ∀ (j : Nat) (u : Value), [x][j]? = some u → (w.alloc (.cells #[x] T)).cell? ((⟨w.heap.size, 0, none⟩ : Addr).add j) = some u := by
  intro j u hj
  match j, hj with
  | 0, hj => simp at hj; subst hj; simp [Addr.add]
theorem one_cell1 {x : Value} (h : x.oneCell' = true) : ∀ u ∈ [x], u.oneCell' = true := by
  intro u hu
  simp at hu
  subst hu
  exact h

set_option maxHeartbeats 4000000 in
set_option maxRecDepth 1000000 in
theorem slide_any (al ac ao : Option Addr) (n m ca cb co gl gc : Nat) (L : Nat → Int) (C O : Nat → Bool) (w : World) (hn : (n : Int) ≤ 65536) (hm : (m : Int) ≤ 65536)
    (hL : 0 < n → al = some ⟨gl, 0, none⟩ ∧ Row w gl 3 n (intsF L)) (hC : 0 < n → ac = some ⟨gc, 0, none⟩ ∧ Row w gc 4 n (boolsF C)) (hO : Sl w ao m (boolsF O)) (hne : 0 < n → gl ≠ gc) (hgc : 0 < n → gc < w.heap.size) (hF : fc C n ≤ fc O m) :
    Calls Try.prog 9 #[.slice al n ca, .slice ac n cb, .slice ao m co] w fun e w' => e = .returned (.tuple #[]) ∧ ∃ C', (0 < n → Row w' gc 4 n (boolsF C')) ∧ RestTo n L (hitTo O m) C' n ∧ fc C' n = fc C n ∧ w.grownBy w' (some gc) := by
  obtain ⟨i0, hi, hz0, hz1, hz2⟩ := info_parts Try.info4
  have HL : Hid (0 < n → al = some ⟨gl, 0, none⟩ ∧ Row w gl 3 n (intsF L)) := hL
  have HC : Hid (0 < n → ac = some ⟨gc, 0, none⟩ ∧ Row w gc 4 n (boolsF C)) := hC
  have HO : Hid (Sl w ao m (boolsF O)) := hO
  have HNE : Hid (0 < n → gl ≠ gc) := hne
  have HGC : Hid (0 < n → gc < w.heap.size) := hgc
  clear hL hC hO hne hgc
  go_enter Try.func9, Try.ntmps9
  go_wp2
  go_loopg [6, 17] m (fun k v i wr => ∃ j g cap : Nat, k = m - j ∧ j ≤ m ∧ i = .int .i64 j ∧ v = .slice (some ⟨g, 0, none⟩) (fc O j + 1) cap ∧ Meets O wr w.heap.size g cap j ∧ Below w.heap.size w wr)
  case atStart => exact ⟨0, w.heap.size, 1, rfl, Nat.zero_le _, rfl, rfl, Meets.start O w, (Below.refl _ _).alloc (Nat.le_refl _) _⟩
  case round =>
    obtain ⟨j, g, cap, rfl, hj, rfl, rfl, hM, hB⟩ := hrel
    have hfc := fc_le O j
    by_cases hlt : j < m
    · obtain ⟨b, off, rfl, hb, hc⟩ := HO.out (by omega)
      have h1 : wr.cell? ⟨b, off + j, none⟩ = some (.bool (O j)) := (hB.cell (by exact hb)).trans (hc j hlt)
      clear hc
      have hgB := hM.block
      cases hOj : O j with
      | true =>
        rw [hOj] at h1
        have h2 := hM.cell (fc O j) (Nat.le_refl _)
        have h3 := hM.free (fc O j)
        have HM : Hid (Meets O (wr.setCell ⟨g, fc O j, none⟩ (.bool true)) w.heap.size g cap (j + 1)) := hM.yes hOj
        have HFC : Hid (fc O (j + 1) = fc O j) := fc_yes hOj
        clear hOj
        go_wp2_with fail
        go_roundg (m - (j + 1))
        case measure => omega
        case rel => exact ⟨j + 1, g, cap, rfl, by omega, by go_num, by rw [HFC.out], HM.out, hB.setCell hgB.1 _⟩
      | false =>
        rw [hOj] at h1
        have HOj : Hid (O j = false) := hOj
        clear hOj
        go_wp2_with (at_builtin; refine wpList_append_own _ rfl (.tmp 27) (.tmp 28) 23 rfl w.heap.size 4 i0 (.bool false) 1 1 Try.underlying23 hi hz0 hz1 hz2 rfl (by decide) _ (fc O j + 1) _ rfl (World.ownsRow.alloc hM _) ⟨wr.heap.size, 0, none⟩ 1 1 [.bool false] rfl rfl one_news (one_cell1 rfl) (by unfold maxLen; omega) (by omega) (by simp; omega) ?_; intro v' w2 hown2 hgrow2 _)
        have hB2 : Below w.heap.size w w2 := (hB.alloc hB.size _).grown hgrow2 (by simp; omega) (fun k hk => by cases hk; exact hgB.1)
        obtain ⟨g', cap', hv, hM2⟩ := Meets.no HOj.out hown2
        go_roundg (m - (j + 1))
        case measure => omega
        case rel => exact ⟨j + 1, g', cap', rfl, by omega, by go_num, hv, hM2, hB2⟩
    · obtain rfl : j = m := by omega
      have hgB := hM.block
      have HGM : Hid (0 < n → g ≠ gc) := fun h => by have := HGC.out h; omega
      have HMC : Hid (∀ i, i ≤ fc O j → wr.cell? ⟨g, i, none⟩ = some (.bool (hitTo O j i))) := fun i hi => hM.cell i hi
      have HLs : Hid (0 < n → al = some ⟨gl, 0, none⟩ ∧ Row wr gl 3 n (intsF L)) := fun h => ⟨(HL.out h).1, (HL.out h).2.below hB (HL.out h).2.lt⟩
      have HCs : Hid (0 < n → ac = some ⟨gc, 0, none⟩ ∧ Row wr gc 4 n (boolsF C)) := fun h => ⟨(HC.out h).1, (HC.out h).2.below hB (HGC.out h)⟩
      have hgrow0 : w.grownBy wr (some gc) := ⟨hB.os, hB.tape, hB.output, hB.size, fun k hk _ => hB.block k hk⟩
      obtain ⟨w1, hw1⟩ : ∃ x, x = wr := ⟨wr, rfl⟩
      subst hw1
      clear HL HC HO hM hB hgB hlt hi hz0 hz1 hz2 hj
      go_wp2_with fail
      obtain ⟨F0, hF0⟩ : ∃ F0, fc C n = F0 := ⟨_, rfl⟩
      obtain ⟨H, hH⟩ : ∃ H, hitTo O j = H := ⟨_, rfl⟩
      rw [hF0] at hF
      rw [hH] at HMC
      have HF0 : Hid (fc C n = F0) := hF0
      have HH : Hid (hitTo O j = H) := hH
      clear hF0 hH
      go_loopg [9, 10] ((n - F0) * (n + 1) + n) (fun k tg ts wr => ∃ (D : Nat → Bool) (s g T : Nat), k = T * (n + 1) + (n - s) ∧ tg = .int .i64 g ∧ ts = .int .i64 s ∧ Out n L H F0 D s g T ∧ (0 < n → Row wr gc 4 n (boolsF D)) ∧ w1.grownBy wr (some gc))
      case atStart =>
        go_light
        have h1 := fc_le C n
        rw [HF0.out] at h1
        exact ⟨C, 0, 0, n - F0, rfl, rfl, rfl, ⟨Nat.zero_le _, rfl, HF0.out, RestTo.zero, fun _ _ => Top.zero, by omega⟩, fun h => (HCs.out h).2, World.grownBy.refl _ _⟩
      case round =>
        obtain ⟨D, s, gp, T, rfl, rfl, rfl, hOut, hRow, hgr⟩ := hrel
        by_cases hs : s < n
        · obtain ⟨hal, hRL⟩ := HLs.out (by omega)
          obtain ⟨hac, _⟩ := HCs.out (by omega)
          have hne := HNE.out (by omega)
          have hgm := HGM.out (by omega)
          subst hal
          subst hac
          have hWd : Wd w1 wr gc n D := ⟨hRow (by omega), hgr⟩
          clear hRow hgr
          cases hDs : D s with
          | false =>
            have h1 := hWd.cell s false hs hDs
            have HO2 : Hid (Out n L H F0 D (s + 1) (gp + 1) T) := hOut.skip hs hDs
            clear hDs
            have hgl := fc_le D s
            rw [hOut.gap] at hgl
            go_wp2_with fail
            go_roundg (T * (n + 1) + (n - (s + 1)))
            case measure => go_light; omega
            case rel => go_light; exact ⟨D, s + 1, gp + 1, T, rfl, by go_num, by go_num, HO2.out, fun _ => hWd.row, hWd.grown⟩
          | true =>
            have h1 := hWd.cell s true hs hDs
            obtain ⟨hSt, hTop⟩ := hOut.begin hs hDs
            clear hDs
            go_upto_block 4 with fail
            clear h1
            have hgle := hSt.gle
            go_cut [11] from 31 to 181 (fun te wx => ∃ e : Nat, te = .int .i64 e ∧ St n L H F0 D s e gp ∧ Bot n D e ∧ wx = wr)
            case first =>
              go_wp2_with fail
              go_loopg [11] (n - (s + 1)) (fun k te wx => wx = wr ∧ ∃ e : Nat, k = n - e ∧ te = .int .i64 e ∧ St n L H F0 D s e gp)
              case atStart => go_light; exact ⟨rfl, s + 1, rfl, by go_num, hSt⟩
              case round =>
                obtain ⟨rfl, e, rfl, rfl, hSe⟩ := hrel
                have hen := hSe.en
                by_cases he : e < n
                · cases hDe : D e with
                  | true =>
                    have h2 := hWd.cell e true he hDe
                    have HS2 : Hid (St n L H F0 D s (e + 1) gp) := hSe.absorb he hDe
                    clear hDe
                    go_wp2_with fail
                    go_roundg (n - (e + 1))
                    case measure => go_light; omega
                    case rel => go_light; exact ⟨rfl, e + 1, rfl, by go_num, HS2.out⟩
                  | false =>
                    have h2 := hWd.cell e false he hDe
                    have HB : Hid (Bot n D e) := Bot.of hDe
                    clear hDe
                    go_wp2_with fail
                    go_meet
                    case rel => go_light; exact ⟨e, rfl, hSe, HB.out, rfl⟩
                · go_wp2_with fail
                  go_meet
                  case rel => go_light; exact ⟨e, rfl, hSe, Bot.end_ (by omega), rfl⟩
            case rest =>
              obtain ⟨e0, rfl, hS0, hB0, rfl⟩ := hcut
              clear hSt
              go_upto_block 6 with fail
              have hse0 := hS0.se
              have hen0 := hS0.en
              have hE0 : s + 1 + gp ≤ e0 + gp := by omega
              go_cut [9, 10, 11, 12] from 31 to 181 (fun tg ts te tm wx => ∃ (D' : Nat → Bool) (s' e' g' : Nat) (mv : Int), tg = .int .i64 g' ∧ ts = .int .i64 s' ∧ te = .int .i64 e' ∧ tm = .int .i64 mv ∧ St n L H F0 D' s' e' g' ∧ Top D' s' ∧ Bot n D' e' ∧ s + 1 + g' ≤ e' + gp ∧ Wd w1 wx gc n D' ∧ Fin n L H D' s' e' mv)
              case first =>
                go_wp2_with fail
                go_loopg [9, 10, 11, 12, 13] n (fun k tg ts te tm tz wx => ∃ (D' : Nat → Bool) (s' e' g' z : Nat) (mv : Int), k = n - z ∧ tg = .int .i64 g' ∧ ts = .int .i64 s' ∧ te = .int .i64 e' ∧ tm = .int .i64 mv ∧ tz = .int .i64 z ∧ St n L H F0 D' s' e' g' ∧ Top D' s' ∧ Bot n D' e' ∧ s + 1 + g' ≤ e' + gp ∧ Wd w1 wx gc n D' ∧ z + s' ≤ e' ∧ (z + s' = e' → Fin n L H D' s' e' mv))
                case atStart => go_light; exact ⟨D, s, e0, gp, 0, -1, rfl, rfl, rfl, rfl, rfl, rfl, hS0, hTop, hB0, hE0, hWd, by omega, fun h => by omega⟩
                case round =>
                  obtain ⟨D1, s1, e1, g1, z, mv, rfl, rfl, rfl, rfl, rfl, rfl, hS1, hT1, hBt1, hE1, hW1, hz1, hfin⟩ := hrel
                  have hse1 := hS1.se
                  have hen1 := hS1.en
                  have hgl1 := hS1.gle
                  clear hS0 hTop hB0 hWd hOut
                  by_cases hze : z + s1 = e1
                  · have hq : ((z : Int) != (e1 : Int) - (s1 : Int)) = false := by rw [bne_eq_false_iff_eq]; omega
                    have HFn : Hid (Fin n L H D1 s1 e1 mv) := hfin hze
                    clear hfin hze
                    go_wp2_with fail
                    go_meet
                    case rel => go_light; exact ⟨D1, s1, e1, g1, mv, rfl, rfl, rfl, rfl, hS1, hT1, hBt1, hE1, hW1, HFn.out⟩
                  · have hq : ((z : Int) != (e1 : Int) - (s1 : Int)) = true := by rw [bne_iff_ne]; omega
                    have hzlt : z + s1 < e1 := by omega
                    clear hfin hze
                    go_upto_block 8 with fail
                    go_cut [9, 10, 11] from 58 to 161 (fun tg ts te wx => ∃ (D' : Nat → Bool) (s' e' g' : Nat), tg = .int .i64 g' ∧ ts = .int .i64 s' ∧ te = .int .i64 e' ∧ St n L H F0 D' s' e' g' ∧ Top D' s' ∧ Bot n D' e' ∧ s + 1 + g' ≤ e' + gp ∧ Wd w1 wx gc n D' ∧ e1 + s' ≤ e' + s1)
                    case first =>
                      go_wp2_with fail
                      go_loopg [9, 10, 11] s1 (fun k tg ts te wx => ∃ (D' : Nat → Bool) (s' e' g' : Nat), s' = k ∧ tg = .int .i64 g' ∧ ts = .int .i64 s' ∧ te = .int .i64 e' ∧ St n L H F0 D' s' e' g' ∧ Top D' s' ∧ Bot n D' e' ∧ s + 1 + g' ≤ e' + gp ∧ Wd w1 wx gc n D' ∧ e1 + s' ≤ e' + s1)
                      case atStart => go_light; exact ⟨D1, s1, e1, g1, rfl, rfl, rfl, rfl, hS1, hT1, hBt1, hE1, hW1, Nat.le_refl _⟩
                      case round =>
                        obtain ⟨D3, s3, e3, g3, rfl, rfl, rfl, rfl, hS3, hT3, hBt3, hE3, hW3, hz3⟩ := hrel
                        have hse3 := hS3.se
                        have hen3 := hS3.en
                        clear hS1 hT1 hBt1 hW1 hgl1
                        by_cases hs0 : s3 = 0
                        · subst hs0
                          go_wp2_with fail
                          go_quiet (fail)
                          go_wp2_with fail
                          go_meet
                          case rel => go_light; exact ⟨D3, 0, e3, g3, rfl, rfl, rfl, hS3, hT3, hBt3, hE3, hW3.drewN _, hz3⟩
                        · obtain ⟨t, rfl⟩ : ∃ t, s3 = t + 1 := ⟨s3 - 1, by omega⟩
                          obtain ⟨d, rfl⟩ : ∃ d, e3 = d + 1 := ⟨e3 - 1, by omega⟩
                          have hDt := hT3 t rfl
                          have c1 := hW3.cell t false (by omega) hDt
                          have c2 := hW3.ls hRL hne t (by omega)
                          have c3 := hW3.ls hRL hne d (by omega)
                          have hb1 : (0 : Int) < (t : Int) + 1 := by omega
                          have hb2 : (t : Int) < (n : Int) := by omega
                          have hb3 : (d : Int) < (n : Int) := by omega
                          by_cases hLL : L t = L d
                          · have hLb : (L t == L d) = true := beq_iff_eq.2 hLL
                            obtain ⟨hS4, hBt4, hg4⟩ := hS3.up hDt
                            have hgl3 := hS3.gle
                            have HD : Hid (D3 t = false) := hDt
                            clear hLL hDt
                            have c4 := hW3.cell d true (by omega) (hS3.run d (by omega) (by omega))
                            have f1 := hW3.free t
                            have f2 := hW3.free d
                            have HW4 : Hid (Wd w1 ((wr.setCell ⟨gc, t, none⟩ (.bool true)).setCell ⟨gc, d, none⟩ (.bool false)) gc n (put (put D3 t true) d false)) := (hW3.put t true).put d false
                            go_wp2_with fail
                            go_quiet (fail)
                            go_wp2_with fail
                            go_loopg [10] t (fun k ts wx => ∃ u : Nat, u = k ∧ u ≤ t ∧ ts = .int .i64 u ∧ St n L H F0 (put (put D3 t true) d false) u d (g3 - 1) ∧ Wd w1 wx gc n (put (put D3 t true) d false))
                            case atStart => go_light; exact ⟨t, rfl, Nat.le_refl _, rfl, hS4, HW4.out.drewN nq⟩
                            case round =>
                              obtain ⟨u, rfl, hut, rfl, hS5, hW5⟩ := hrel
                              clear c1 c2 c3 c4 f1 f2 HW4 hS4 hS3 hW3 hT3 hBt3
                              obtain ⟨D4, hD4⟩ : ∃ D4, put (put D3 t true) d false = D4 := ⟨_, rfl⟩
                              rw [hD4] at hS5 hW5 hBt4
                              have HD4 : Hid (put (put D3 t true) d false = D4) := hD4
                              clear hD4
                              have hsn5 := hS5.se
                              by_cases hu0 : u = 0
                              · subst hu0
                                go_wp2_with fail
                                go_roundg 0
                                case measure => go_light; omega
                                case rel => go_light; exact ⟨D4, 0, d, g3 - 1, rfl, by go_num, rfl, rfl, hS5, Top.zero, hBt4, by omega, hW5, by omega⟩
                              · obtain ⟨v, rfl⟩ : ∃ v, u = v + 1 := ⟨u - 1, by omega⟩
                                have hb4 : (0 : Int) < (v : Int) + 1 := by omega
                                have hb5 : (v : Int) < (n : Int) := by omega
                                cases hDv : D4 v with
                                | true =>
                                  have c5 := hW5.cell v true (by omega) hDv
                                  have HS6 : Hid (St n L H F0 (put (put D3 t true) d false) v d (g3 - 1)) := by rw [HD4.out]; exact hS5.merge hDv
                                  clear hDv
                                  go_wp2_with fail
                                  go_roundg v
                                  case measure => go_light; omega
                                  case rel => go_light; exact ⟨v, rfl, by omega, by go_num, HS6.out, by rw [HD4.out]; exact hW5⟩
                                | false =>
                                  have c5 := hW5.cell v false (by omega) hDv
                                  have HT6 : Hid (Top D4 (v + 1)) := Top.of hDv
                                  clear hDv
                                  go_wp2_with fail
                                  go_roundg (v + 1)
                                  case measure => go_light; omega
                                  case rel => go_light; exact ⟨D4, v + 1, d, g3 - 1, rfl, by go_num, by go_num, rfl, hS5, HT6.out, hBt4, by omega, hW5, by omega⟩
                          · have hLb : (L t == L d) = false := beq_eq_false_iff_ne.2 hLL
                            clear hLL hDt
                            go_wp2_with fail
                            go_quiet (fail)
                            go_wp2_with fail
                            go_meet
                            case rel => go_light; exact ⟨D3, t + 1, d + 1, g3, rfl, by go_num, by go_num, hS3, hT3, hBt3, hE3, hW3.drewN _, hz3⟩
                    case rest =>
                      obtain ⟨D3, s3, e3, g3, rfl, rfl, rfl, hS3, hT3, hBt3, hE3, hW3, hz3⟩ := hcut
                      clear hS1 hT1 hBt1 hW1 hgl1
                      go_wp2_with fail
                      go_loopg [9, 10, 11, 12] (n - e3) (fun k tg ts te tm wx => ∃ (D' : Nat → Bool) (s' e' g' : Nat) (mv' : Int), k = n - e' ∧ tg = .int .i64 g' ∧ ts = .int .i64 s' ∧ te = .int .i64 e' ∧ tm = .int .i64 mv' ∧ St n L H F0 D' s' e' g' ∧ Top D' s' ∧ Bot n D' e' ∧ s + 1 + g' ≤ e' + gp ∧ Wd w1 wx gc n D' ∧ e1 + s' ≤ e' + s1 ∧ MetOk H D' s' e' s1 e1 mv')
                      case atStart => go_light; exact ⟨D3, s3, e3, g3, -1, rfl, rfl, rfl, rfl, rfl, hS3, hT3, hBt3, hE3, hW3, hz3, .inl rfl⟩
                      case round =>
                        clear hS3 hT3 hBt3 hE3 hW3 hz3
                        obtain ⟨D4, s4, e4, g4, mv4, rfl, rfl, rfl, rfl, rfl, hS4, hT4, hBt4, hE4, hW4, hz4, hMo4⟩ := hrel
                        have hse4 := hS4.se
                        have hen4 := hS4.en
                        have hgl4 := hS4.gle
                        have hb6 : (g4 : Int) < (fc O j : Int) + 1 := by omega
                        obtain ⟨hb, hhb⟩ : ∃ hb, H g4 = hb := ⟨_, rfl⟩
                        have c6 := hW4.mt HMC.out hgm g4 hb (by omega) hhb
                        have HHb : Hid (H g4 = hb) := hhb
                        clear hhb
                        go_upto_if 115 with fail
                        go_cut [12] from 112 to 161 (fun tm wx => ∃ mv' : Int, tm = .int .i64 mv' ∧ MetOk H D4 s4 e4 s1 e1 mv' ∧ wx = wr)
                        case first =>
                          cases hb with
                          | true =>
                            go_wp2_with fail
                            go_meet
                            case rel => go_light; exact ⟨(e4 : Int), rfl, MetOk.new hS4 hT4 HHb.out, rfl⟩
                          | false =>
                            go_wp2_with fail
                            go_meet
                            case rel => go_light; exact ⟨mv4, rfl, hMo4, rfl⟩
                        case rest =>
                          obtain ⟨mv5, rfl, hMo5, rfl⟩ := hcut
                          clear hMo4 c6 HHb
                          by_cases hen : e4 = n
                          · subst hen
                            go_wp2_with fail
                            go_quiet (fail)
                            go_wp2_with fail
                            go_roundg (e4 - (e1 - s1))
                            case measure => go_light; omega
                            case rel => go_light; exact ⟨D4, s4, e4, g4, e1 - s1, mv5, rfl, rfl, rfl, rfl, rfl, by go_num, hS4, hT4, hBt4, hE4, hW4.drewN _, by omega, fun hz => hMo5.fin (by omega) (.inl rfl)⟩
                          · have he4 : e4 < n := by omega
                            have hDe := hBt4 he4
                            have hb7 : (e4 : Int) < (n : Int) := by omega
                            have hb8 : (s4 : Int) < (n : Int) := by omega
                            have hb9 : ((e4 : Int) == (n : Int)) = false := beq_eq_false_iff_ne.2 (by omega)
                            have c7 := hW4.cell e4 false he4 hDe
                            have c8 := hW4.ls hRL hne s4 (by omega)
                            have c9 := hW4.ls hRL hne e4 he4
                            by_cases hLL : L s4 = L e4
                            · have hLb : (L s4 != L e4) = false := by rw [bne_eq_false_iff_eq]; exact hLL
                              obtain ⟨hS5, hT5⟩ := hS4.down hT4 he4 hDe
                              have c10 := hW4.cell s4 true (by omega) (hS4.run s4 (Nat.le_refl _) hse4)
                              have f3 := hW4.free s4
                              have f4 := hW4.free e4
                              have HW5 : Hid (Wd w1 ((wc.setCell ⟨gc, s4, none⟩ (.bool false)).setCell ⟨gc, e4, none⟩ (.bool true)) gc n (put (put D4 s4 false) e4 true)) := (hW4.put s4 false).put e4 true
                              clear hLL hen hDe
                              go_wp2_with fail
                              go_quiet (fail)
                              go_wp2_with fail
                              go_loopg [11] (n - (e4 + 1)) (fun k te wx => ∃ x : Nat, k = n - x ∧ e4 + 1 ≤ x ∧ te = .int .i64 x ∧ St n L H F0 (put (put D4 s4 false) e4 true) (s4 + 1) x (g4 + 1) ∧ Wd w1 wx gc n (put (put D4 s4 false) e4 true))
                              case atStart => go_light; exact ⟨e4 + 1, rfl, Nat.le_refl _, by go_num, hS5, HW5.out.drewN nq⟩
                              case round =>
                                obtain ⟨x, rfl, hxe, rfl, hS6, hW6⟩ := hrel
                                have hMo6 := hMo5.down hse4 hz4 hxe
                                clear c7 c8 c9 c10 f3 f4 HW5 hS5 hS4 hW4 hT4 hBt4 hMo5
                                obtain ⟨D5, hD5⟩ : ∃ D5, put (put D4 s4 false) e4 true = D5 := ⟨_, rfl⟩
                                rw [hD5] at hS6 hW6 hT5 hMo6
                                have HD5 : Hid (put (put D4 s4 false) e4 true = D5) := hD5
                                clear hD5
                                have hen6 := hS6.en
                                by_cases hxn : x < n
                                · cases hDx : D5 x with
                                  | true =>
                                    have c11 := hW6.cell x true hxn hDx
                                    have HS7 : Hid (St n L H F0 (put (put D4 s4 false) e4 true) (s4 + 1) (x + 1) (g4 + 1)) := by rw [HD5.out]; exact hS6.absorb hxn hDx
                                    clear hDx
                                    go_wp2_with fail
                                    go_roundg (n - (x + 1))
                                    case measure => go_light; omega
                                    case rel => go_light; exact ⟨x + 1, rfl, by omega, by go_num, HS7.out, by rw [HD5.out]; exact hW6⟩
                                  | false =>
                                    have c11 := hW6.cell x false hxn hDx
                                    have HB6 : Hid (Bot n D5 x) := Bot.of hDx
                                    clear hDx
                                    go_wp2_with fail
                                    go_roundg (n - x)
                                    case measure => go_light; omega
                                    case rel => go_light; exact ⟨D5, s4 + 1, x, g4 + 1, mv5, rfl, by go_num, by go_num, rfl, rfl, hS6, hT5, HB6.out, by omega, hW6, by omega, hMo6⟩
                                · go_wp2_with fail
                                  go_roundg (n - x)
                                  case measure => go_light; omega
                                  case rel => go_light; exact ⟨D5, s4 + 1, x, g4 + 1, mv5, rfl, by go_num, by go_num, rfl, rfl, hS6, hT5, Bot.end_ (by omega), by omega, hW6, by omega, hMo6⟩
                            · have hLb : (L s4 != L e4) = true := by rw [bne_iff_ne]; exact hLL
                              have HLL : Hid (L s4 ≠ L e4) := hLL
                              clear hLL hDe hen
                              go_wp2_with fail
                              go_quiet (fail)
                              go_wp2_with fail
                              go_roundg (n - (e1 - s1))
                              case measure => go_light; omega
                              case rel => go_light; exact ⟨D4, s4, e4, g4, e1 - s1, mv5, rfl, rfl, rfl, rfl, rfl, by go_num, hS4, hT4, hBt4, hE4, hW4.drewN _, by omega, fun hz => hMo5.fin (by omega) (.inr HLL.out)⟩
              case rest =>
                obtain ⟨D2, s2, e2, g2, mv, rfl, rfl, rfl, rfl, hS2, hT2, hBt2, hE2, hW2, hFn⟩ := hcut
                have hse2 := hS2.se
                have hen2 := hS2.en
                have hgl2 := hS2.gle
                clear hS0 hTop hB0 hWd
                rcases hFn with ⟨rfl, hrest⟩ | ⟨dd, m', rfl, hmd, hMet⟩
                · obtain ⟨T', hT', hOut'⟩ := hOut.finish hS2 hT2 hBt2 hE2 (.inr hrest)
                  clear hrest
                  go_wp2_with fail
                  refine wp_loop_rounds 1 ?_
                  rw [rounds_succ]
                  go_wp2_with fail
                  go_roundg (T' * (n + 1) + (n - e2))
                  case measure => go_light; exact lex_lt hT' (Nat.sub_le _ _)
                  case rel => go_light; exact ⟨D2, e2, g2, T', rfl, rfl, rfl, hOut', fun _ => hW2.row, hW2.grown⟩
                · go_wp2_with fail
                  go_loopg [9, 10, 11] dd (fun k tg ts te wx => ∃ (D' : Nat → Bool) (s' e' g' : Nat), tg = .int .i64 g' ∧ ts = .int .i64 s' ∧ te = .int .i64 e' ∧ St n L H F0 D' s' e' g' ∧ Bot n D' e' ∧ s + 1 + g' ≤ e' + gp ∧ Wd w1 wx gc n D' ∧ m' + k = e' ∧ MetD H D' s' k)
                  case atStart => go_light; exact ⟨D2, s2, e2, g2, rfl, rfl, rfl, hS2, hBt2, hE2, hW2, hmd, hMet⟩
                  case round =>
                    clear hS2 hT2 hBt2 hE2 hW2 hMet
                    obtain ⟨D3, s3, e3, g3, rfl, rfl, rfl, hS3, hBt3, hE3, hW3, hmk, hMet3⟩ := hrel
                    have hse3 := hS3.se
                    have hen3 := hS3.en
                    have hgl3 := hS3.gle
                    cases gk with
                    | zero =>
                      obtain ⟨hh, hT3⟩ := hMet3.zero hS3.gap
                      obtain ⟨T', hT', hOut'⟩ := hOut.finish hS3 hT3 hBt3 hE3 (.inl hh)
                      have hmk' : (e3 : Int) ≤ (m' : Int) := by omega
                      clear hh hmk hmd
                      go_wp2_with fail
                      go_roundg (T' * (n + 1) + (n - e3))
                      case measure => go_light; exact lex_lt hT' (Nat.sub_le _ _)
                      case rel => go_light; exact ⟨D3, e3, g3, T', rfl, rfl, rfl, hOut', fun _ => hW3.row, hW3.grown⟩
                    | succ k =>
                      obtain ⟨t, rfl⟩ : ∃ t, s3 = t + 1 := ⟨s3 - 1, by have := hMet3.le; omega⟩
                      obtain ⟨d, rfl⟩ : ∃ d, e3 = d + 1 := ⟨e3 - 1, by omega⟩
                      have hDt := hMet3.line
                      obtain ⟨hS4, hBt4, hg4⟩ := hS3.up hDt
                      have hMet4 := hMet3.back (d := d) (by omega)
                      have c1 := hW3.cell t false (by omega) hDt
                      have c2 := hW3.cell d true (by omega) (hS3.run d (by omega) (by omega))
                      have f1 := hW3.free t
                      have f2 := hW3.free d
                      have HW4 : Hid (Wd w1 ((wr.setCell ⟨gc, t, none⟩ (.bool true)).setCell ⟨gc, d, none⟩ (.bool false)) gc n (put (put D3 t true) d false)) := (hW3.put t true).put d false
                      have hmk' : (m' : Int) < (d : Int) + 1 := by omega
                      have HMK : Hid (m' + k = d) := by show _ = _; omega
                      clear hDt hmk hmd
                      go_wp2_with fail
                      go_roundg k
                      case measure => go_light; omega
                      case rel => go_light; exact ⟨put (put D3 t true) d false, t, d, g3 - 1, by go_num, by go_num, by go_num, hS4, hBt4, by omega, HW4.out, HMK.out, hMet4⟩
        · obtain rfl : s = n := by have := hOut.sn; omega
          have hfin : RestTo s L H D s := hOut.rest
          have htot : fc D s = F0 := hOut.tot
          have HFin : Hid (RestTo s L H D s ∧ fc D s = F0) := ⟨hfin, htot⟩
          clear hfin htot hOut
          go_wp2_with fail
          go_end0
          exact ⟨rfl, D, hRow, by rw [HH.out]; exact HFin.out.1, by rw [HF0.out]; exact HFin.out.2, grown_trans hgrow0 hgr⟩

set_option maxHeartbeats 400000 in
theorem zzslide_any (al ac ao : Option Addr) (n m ca cb co gl gc : Nat) (L : Nat → Int) (C O : Nat → Bool) (w : World) (hn : (n : Int) ≤ 65536) (hm : (m : Int) ≤ 65536)
    (hL : 0 < n → al = some ⟨gl, 0, none⟩ ∧ Row w gl 3 n (intsF L)) (hC : 0 < n → ac = some ⟨gc, 0, none⟩ ∧ Row w gc 4 n (boolsF C)) (hO : Sl w ao m (boolsF O)) (hne : 0 < n → gl ≠ gc) (hgc : 0 < n → gc < w.heap.size) (hF : fc C n ≤ fc O m) :
    Calls Try.prog 8 #[.slice al n ca, .slice ac n cb, .slice ao m co] w fun e w' => e = .returned (.tuple #[]) ∧ ∃ C', (0 < n → Row w' gc 4 n (boolsF C')) ∧ RestTo n L (hitTo O m) C' n ∧ fc C' n = fc C n ∧ w.grownBy w' (some gc) := by
  have HS : Hid (Calls Try.prog 9 #[.slice al n ca, .slice ac n cb, .slice ao m co] w fun e w' => e = .returned (.tuple #[]) ∧ ∃ C', (0 < n → Row w' gc 4 n (boolsF C')) ∧ RestTo n L (hitTo O m) C' n ∧ fc C' n = fc C n ∧ w.grownBy w' (some gc)) := slide_any al ac ao n m ca cb co gl gc L C O w hn hm hL hC hO hne hgc hF
  clear hL hC hO hne hgc hF
  go_enter Try.func8, Try.ntmps8
  go_wp2_with fail
  refine HS.out.mono ?_
  rintro e w1 ⟨rfl, h1⟩
  have H1 : Hid (∃ C', (0 < n → Row w1 gc 4 n (boolsF C')) ∧ RestTo n L (hitTo O m) C' n ∧ fc C' n = fc C n ∧ w.grownBy w1 (some gc)) := h1
  clear h1
  go_wp2_with fail
  go_end0
  exact ⟨rfl, H1.out⟩

end Go.Proofs.Qxb6603957a
