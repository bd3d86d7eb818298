namespace Go.Proofs.Qxb6603957a
set_option linter.unusedVariables false

/-! ### Counting -/
/-- How many of the first i are false. -/
def fc (C : Nat → Bool) : Nat → Nat
  | 0 => 0
  | i + 1 => fc C i + (if C i then 0 else 1)
def put (C : Nat → Bool) (i : Nat) (v : Bool) : Nat → Bool := fun j => if j = i then v else C j

theorem put_same (C : Nat → Bool) (i : Nat) (v : Bool) : put C i v i = v := if_pos rfl
theorem put_other (C : Nat → Bool) {i j : Nat} (v : Bool) (h : j ≠ i) : put C i v j = C j := if_neg h

theorem fc_yes {C : Nat → Bool} {i : Nat} (h : C i = true) : fc C (i + 1) = fc C i := by simp [fc, h]
theorem fc_no {C : Nat → Bool} {i : Nat} (h : C i = false) : fc C (i + 1) = fc C i + 1 := by simp [fc, h]
theorem fc_congr {C D : Nat → Bool} : ∀ i, (∀ j, j < i → C j = D j) → fc C i = fc D i
  | 0, _ => rfl
  | i + 1, h => by
    show fc C i + (if C i then 0 else 1) = fc D i + (if D i then 0 else 1)
    rw [fc_congr i (fun j hj => h j (by omega)), h i (by omega)]
theorem fc_le (C : Nat → Bool) : ∀ i, fc C i ≤ i
  | 0 => Nat.le_refl _
  | i + 1 => by
    show fc C i + (if C i then 0 else 1) ≤ i + 1
    have := fc_le C i
    split <;> omega
theorem fc_step (C : Nat → Bool) (i : Nat) : fc C i ≤ fc C (i + 1) ∧ fc C (i + 1) ≤ fc C i + 1 := by
  show fc C i ≤ fc C i + (if C i then 0 else 1) ∧ fc C i + (if C i then 0 else 1) ≤ fc C i + 1
  split <;> omega
theorem fc_add (C : Nat → Bool) (i : Nat) : ∀ d, fc C i ≤ fc C (i + d) ∧ fc C (i + d) ≤ fc C i + d
  | 0 => ⟨Nat.le_refl _, Nat.le_refl _⟩
  | d + 1 => by
    have h := fc_add C i d
    have k := fc_step C (i + d)
    rw [← Nat.add_assoc]
    omega
theorem fc_mono (C : Nat → Bool) {a b : Nat} (h : a ≤ b) : fc C a ≤ fc C b ∧ fc C b ≤ fc C a + (b - a) := by
  have := fc_add C a (b - a)
  rwa [show a + (b - a) = b from by omega] at this
theorem fc_all {C : Nat → Bool} {i : Nat} : ∀ d, (∀ j, i ≤ j → j < i + d → C j = true) → fc C (i + d) = fc C i
  | 0, _ => rfl
  | d + 1, h => by rw [← Nat.add_assoc, fc_yes (h (i + d) (by omega) (by omega)), fc_all d (fun j a b => h j a (by omega))]
theorem fc_put_ge (C : Nat → Bool) (k : Nat) (v : Bool) (i : Nat) (h : i ≤ k) : fc (put C k v) i = fc C i :=
  fc_congr i (fun j hj => put_other C v (by omega))
theorem fc_put (C : Nat → Bool) (k : Nat) (v : Bool) : ∀ i, k < i → fc (put C k v) i + (if C k then 0 else 1) = fc C i + (if v then 0 else 1)
  | 0, h => by omega
  | i + 1, h => by
    by_cases e : k = i
    · subst e
      show fc (put C k v) k + (if put C k v k then 0 else 1) + (if C k then 0 else 1) = fc C k + (if C k then 0 else 1) + (if v then 0 else 1)
      rw [put_same, fc_put_ge C k v k (Nat.le_refl _)]
      omega
    · have ih := fc_put C k v i (by omega)
      show fc (put C k v) i + (if put C k v i then 0 else 1) + (if C k then 0 else 1) = fc C i + (if C i then 0 else 1) + (if v then 0 else 1)
      rw [put_other C v (by omega)]
      omega
/-- A true and a false change places: the count stays. -/
theorem fc_swap {C : Nat → Bool} {a b n : Nat} {x : Bool} (hab : a ≠ b) (ha : a < n) (hb : b < n) (h1 : C a = x) (h2 : C b = !x) : fc (put (put C a (!x)) b x) n = fc C n := by
  have e1 := fc_put C a (!x) n ha
  have e2 := fc_put (put C a (!x)) b x n hb
  rw [put_other C _ (Ne.symm hab)] at e2
  rw [h1] at e1
  rw [h2] at e2
  cases x <;> simp at e1 e2 ⊢ <;> omega

/-! ### Runs at rest -/
def IsRun (n : Nat) (C : Nat → Bool) (a b : Nat) : Prop :=
  a < b ∧ b ≤ n ∧ (∀ j, a ≤ j → j < b → C j = true) ∧ (∀ t, t + 1 = a → C t = false) ∧ (b < n → C b = false)
def RestTo (n : Nat) (L : Nat → Int) (H : Nat → Bool) (C : Nat → Bool) (k : Nat) : Prop :=
  ∀ a b, IsRun n C a b → b ≤ k → H (fc C a) = true ∨ b = n ∨ L a ≠ L b
def Top (C : Nat → Bool) (s : Nat) : Prop := ∀ t, t + 1 = s → C t = false
def Bot (n : Nat) (C : Nat → Bool) (e : Nat) : Prop := e < n → C e = false

structure St (n : Nat) (L : Nat → Int) (H : Nat → Bool) (F0 : Nat) (C : Nat → Bool) (s e g : Nat) : Prop where
  se : s < e
  en : e ≤ n
  run : ∀ j, s ≤ j → j < e → C j = true
  gap : fc C s = g
  tot : fc C n = F0
  rest : RestTo n L H C s

section
variable {n : Nat} {L : Nat → Int} {H : Nat → Bool} {F0 : Nat} {C : Nat → Bool}

theorem RestTo.mono {k m : Nat} (h : RestTo n L H C m) (hk : k ≤ m) : RestTo n L H C k := fun a b hr hb => h a b hr (by omega)
theorem RestTo.zero : RestTo n L H C 0 := fun a b hr hb => by
  have := hr.1
  omega

/-- Another marking that agrees below k. -/
theorem RestTo.agree {D : Nat → Bool} {k m : Nat} (h : RestTo n L H C m) (hk : k ≤ m) (ha : ∀ j, j < k → D j = C j) (hc : k < n → D k = true ∨ C k = false) : RestTo n L H D k := by
  intro a b hr hb
  obtain ⟨h1, h2, h3, h4, h5⟩ := hr
  have hfc : fc D a = fc C a := fc_congr a (fun j hj => ha j (by omega))
  rw [hfc]
  refine h a b ⟨h1, h2, fun j p q => by rw [← ha j (by omega)]; exact h3 j p q, fun t ht => by rw [← ha t (by omega)]; exact h4 t ht, fun hbn => ?_⟩ (by omega)
  by_cases e : b = k
  · subst e
    rcases hc hbn with q | q
    · rw [h5 hbn] at q
      cases q
    · exact q
  · rw [← ha b (by omega)]
    exact h5 hbn

/-- An unchanged line is passed. -/
theorem RestTo.skip {k : Nat} (h : RestTo n L H C k) (hc : C k = false) : RestTo n L H C (k + 1) := by
  intro a b hr hb
  by_cases e : b = k + 1
  · exfalso
    have := hr.2.2.1 k (by have := hr.1; omega) (by omega)
    rw [hc] at this
    cases this
  · exact h a b hr (by omega)

/-- A run is met. -/
theorem St.begin {s : Nat} (hs : s < n) (hc : C s = true) (htot : fc C n = F0) (hrest : RestTo n L H C s) : St n L H F0 C s (s + 1) (fc C s) :=
  ⟨by omega, by omega, fun j a b => by obtain rfl : j = s := (by omega); exact hc, rfl, htot, hrest⟩

theorem St.absorb {s e g : Nat} (h : St n L H F0 C s e g) (he : e < n) (hc : C e = true) : St n L H F0 C s (e + 1) g :=
  ⟨by have := h.se; omega, by omega, fun j a b => by
    by_cases q : j = e
    · subst q; exact hc
    · exact h.run j a (by omega), h.gap, h.tot, h.rest⟩

theorem St.merge {t e g : Nat} (h : St n L H F0 C (t + 1) e g) (hc : C t = true) : St n L H F0 C t e g :=
  ⟨by have := h.se; omega, h.en, fun j a b => by
    by_cases q : j = t
    · subst q; exact hc
    · exact h.run j (by omega) b, by rw [← fc_yes hc]; exact h.gap, h.tot, h.rest.mono (by omega)⟩

/-- One line up. -/
theorem St.up {t d g : Nat} (h : St n L H F0 C (t + 1) (d + 1) g) (hc : C t = false) :
    St n L H F0 (put (put C t true) d false) t d (g - 1) ∧ Bot n (put (put C t true) d false) d ∧ 1 ≤ g := by
  have h1 := h.se
  have h2 := h.en
  have hd : C d = true := h.run d (by omega) (by omega)
  have hg := h.gap
  rw [fc_no hc] at hg
  refine ⟨⟨by omega, by omega, fun j a b => ?_, ?_, ?_, ?_⟩, fun _ => put_same _ _ _, by omega⟩
  · rw [put_other _ _ (by omega)]
    by_cases q : j = t
    · subst q; exact put_same _ _ _
    · rw [put_other _ _ q]
      exact h.run j (by omega) (by omega)
  · rw [fc_put_ge _ _ _ _ (by omega), fc_put_ge _ _ _ _ (Nat.le_refl _)]
    omega
  · have := fc_swap (x := false) (show t ≠ d by omega) (show t < n by omega) (show d < n by omega) hc (by simpa using hd)
    rw [← h.tot]
    exact this
  · refine h.rest.agree (by omega) (fun j hj => by rw [put_other _ _ (by omega), put_other _ _ (by omega)]) (fun _ => .inl ?_)
    rw [put_other _ _ (by omega)]
    exact put_same _ _ _

/-- One line down. -/
theorem St.down {s e g : Nat} (h : St n L H F0 C s e g) (htop : Top C s) (he : e < n) (hc : C e = false) :
    St n L H F0 (put (put C s false) e true) (s + 1) (e + 1) (g + 1) ∧ Top (put (put C s false) e true) (s + 1) := by
  have h1 := h.se
  have hs : C s = true := h.run s (Nat.le_refl _) h1
  have hss : put (put C s false) e true s = false := by rw [put_other _ _ (by omega)]; exact put_same _ _ _
  refine ⟨⟨by omega, by omega, fun j a b => ?_, ?_, ?_, ?_⟩, fun t ht => by obtain rfl : t = s := (by omega); exact hss⟩
  · by_cases q : j = e
    · subst q; exact put_same _ _ _
    · rw [put_other _ _ q, put_other _ _ (by omega)]
      exact h.run j (by omega) (by omega)
  · rw [fc_no hss, fc_put_ge _ _ _ _ (by omega), fc_put_ge _ _ _ _ (Nat.le_refl _), h.gap]
  · have := fc_swap (x := true) (show s ≠ e by omega) (show s < n by omega) he hs (by simpa using hc)
    rw [← h.tot]
    exact this
  · refine RestTo.skip ?_ hss
    intro a b hr hb
    by_cases q : b = s
    · exfalso
      subst q
      obtain ⟨h3, _, h4, _, _⟩ := hr
      have := h4 (b - 1) (by omega) (by omega)
      rw [put_other _ _ (by omega), put_other _ _ (by omega), htop (b - 1) (by omega)] at this
      cases this
    · obtain ⟨h3, h4, h5, h6, h7⟩ := hr
      have hag : ∀ j, j < s → put (put C s false) e true j = C j := fun j hj => by rw [put_other _ _ (by omega), put_other _ _ (by omega)]
      have hfc : fc (put (put C s false) e true) a = fc C a := fc_congr a (fun j hj => hag j (by omega))
      rw [hfc]
      exact h.rest a b ⟨h3, h4, fun j p q' => by rw [← hag j (by omega)]; exact h5 j p q', fun t ht => by rw [← hag t (by omega)]; exact h6 t ht, fun hbn => by rw [← hag b (by omega)]; exact h7 hbn⟩ (by omega)

/-- The run has come to rest. -/
theorem St.rests {s e g : Nat} (h : St n L H F0 C s e g) (htop : Top C s) (hr : H g = true ∨ e = n ∨ L s ≠ L e) : RestTo n L H C e := by
  intro a b hrun hb
  obtain ⟨h3, h4, h5, h6, h7⟩ := hrun
  by_cases q : b ≤ s
  · exact h.rest a b ⟨h3, h4, h5, h6, h7⟩ q
  · have hbe : b = e := by
      by_cases q2 : b = e
      · exact q2
      · exfalso
        have := h7 (by have := h.en; omega)
        rw [h.run b (by omega) (by omega)] at this
        cases this
    have has : a = s := by
      by_cases q2 : a < s
      · exfalso
        have hs1 := htop (s - 1) (by omega)
        rw [h5 (s - 1) (by omega) (by omega)] at hs1
        cases hs1
      · by_cases q3 : a = s
        · exact q3
        · exfalso
          have := h6 (a - 1) (by omega)
          rw [h.run (a - 1) (by omega) (by omega)] at this
          cases this
    subst hbe
    subst has
    rw [h.gap]
    exact hr

theorem St.fce {s e g : Nat} (h : St n L H F0 C s e g) : fc C e = g := by
  have := fc_all (C := C) (i := s) (e - s) (fun j a b => h.run j a (by have := h.se; omega))
  rw [show s + (e - s) = e from by have := h.se; omega] at this
  rw [this, h.gap]
theorem St.gle {s e g : Nat} (h : St n L H F0 C s e g) : g ≤ F0 ∧ g ≤ s := by
  have h1 := (fc_mono C (show s ≤ n by have := h.se; have := h.en; omega)).1
  have h2 := fc_le C s
  rw [h.gap] at h1 h2
  rw [h.tot] at h1
  exact ⟨h1, h2⟩

/-! ### Where a change of the other text is met -/
structure MetD (H : Nat → Bool) (C : Nat → Bool) (s D : Nat) : Prop where
  le : D ≤ s
  no : ∀ j, s - D ≤ j → j < s → C j = false
  hit : H (fc C (s - D)) = true
  top : Top C (s - D)

theorem MetD.new {s g : Nat} (hg : fc C s = g) (hh : H g = true) (ht : Top C s) : MetD H C s 0 :=
  ⟨Nat.zero_le _, fun j a b => by omega, by rw [Nat.sub_zero, hg]; exact hh, ht⟩
theorem MetD.down {s e D : Nat} (h : MetD H C s D) (hse : s < e) : MetD H (put (put C s false) e true) (s + 1) (D + 1) := by
  have hle := h.le
  have e1 : s + 1 - (D + 1) = s - D := by omega
  have hag : ∀ j, j < s → put (put C s false) e true j = C j := fun j hj => by rw [put_other _ _ (by omega), put_other _ _ (by omega)]
  refine ⟨by omega, fun j a b => ?_, ?_, ?_⟩
  · by_cases q : j = s
    · subst q
      rw [put_other _ _ (by omega)]
      exact put_same _ _ _
    · rw [hag j (by omega)]
      exact h.no j (by omega) (by omega)
  · rw [e1, fc_congr (D := C) (s - D) (fun j hj => hag j (by omega))]
    exact h.hit
  · rw [e1]
    intro t ht
    rw [hag t (by omega)]
    exact h.top t ht
theorem MetD.line {t D : Nat} (h : MetD H C (t + 1) (D + 1)) : C t = false := h.no t (by omega) (by omega)
theorem MetD.back {t d D : Nat} (h : MetD H C (t + 1) (D + 1)) (htd : t < d) : MetD H (put (put C t true) d false) t D := by
  have hle := h.le
  have e1 : t + 1 - (D + 1) = t - D := by omega
  have hag : ∀ j, j < t → put (put C t true) d false j = C j := fun j hj => by rw [put_other _ _ (by omega), put_other _ _ (by omega)]
  have h2 := h.hit
  have h3 := h.top
  rw [e1] at h2 h3
  refine ⟨by omega, fun j a b => ?_, ?_, ?_⟩
  · rw [hag j b]
    exact h.no j (by omega) (by omega)
  · rw [fc_congr (D := C) (t - D) (fun j hj => hag j (by omega))]
    exact h2
  · intro u hu
    rw [hag u (by omega)]
    exact h3 u hu
theorem MetD.zero {s g : Nat} (h : MetD H C s 0) (hg : fc C s = g) : H g = true ∧ Top C s := by
  have h2 := h.hit
  have h3 := h.top
  rw [Nat.sub_zero] at h2 h3
  rw [hg] at h2
  exact ⟨h2, h3⟩
end

/-! ### The other text's changes, gap by gap -/
def hitTo (O : Nat → Bool) : Nat → (Nat → Bool)
  | 0 => fun _ => false
  | k + 1 => if O k then put (hitTo O k) (fc O k) true else hitTo O k
theorem hitTo_yes {O : Nat → Bool} {k : Nat} (h : O k = true) : hitTo O (k + 1) = put (hitTo O k) (fc O k) true := by
  show (if O k then _ else _) = _
  rw [if_pos h]
theorem hitTo_no {O : Nat → Bool} {k : Nat} (h : O k = false) : hitTo O (k + 1) = hitTo O k := by
  show (if O k then _ else _) = _
  rw [if_neg (by rw [h]; decide)]
theorem hitTo_past (O : Nat → Bool) : ∀ k j, fc O k < j → hitTo O k j = false
  | 0, _, _ => rfl
  | k + 1, j, h => by
    have hm := (fc_step O k).1
    cases hO : O k with
    | true =>
      rw [hitTo_yes hO, put_other _ _ (by omega)]
      exact hitTo_past O k j (by omega)
    | false =>
      rw [hitTo_no hO]
      exact hitTo_past O k j (by omega)

end Go.Proofs.Qxb6603957a
