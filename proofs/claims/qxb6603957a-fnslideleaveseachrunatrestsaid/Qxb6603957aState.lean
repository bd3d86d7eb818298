import Derived.Test.Qxb6603957aMeets
namespace Go.Proofs.Qxb6603957a
open Go.RowKit
set_option linter.unusedVariables false

/-! ### The world behind slide's first loop -/
structure Wd (w1 wr : World) (gc n : Nat) (D : Nat → Bool) : Prop where
  row : Row wr gc 4 n (boolsF D)
  grown : w1.grownBy wr (some gc)

section
variable {w1 wr : World} {gc n : Nat} {D : Nat → Bool}
theorem Wd.put (h : Wd w1 wr gc n D) (i : Nat) (v : Bool) : Wd w1 (wr.setCell ⟨gc, i, none⟩ (.bool v)) gc n (put D i v) :=
  ⟨(h.row.set i (.bool v)).congr (fun j hj => by
    by_cases e : j = i
    · subst e
      rw [if_pos rfl]
      show _ = Value.bool (Go.Proofs.Qxb6603957a.put D j v j)
      rw [put_same]
    · rw [if_neg e]
      show _ = Value.bool (Go.Proofs.Qxb6603957a.put D i v j)
      rw [put_other _ _ e]
      rfl), grown_trans h.grown (grown_setCell _ _ _ _)⟩
theorem Wd.drewN (h : Wd w1 wr gc n D) (k : Nat) : Wd w1 (wr.drewN k) gc n D := ⟨h.row, grown_trans h.grown (grown_drewN _ _ _)⟩
theorem Wd.cell (h : Wd w1 wr gc n D) (i : Nat) (v : Bool) (hi : i < n) (hv : D i = v) : wr.cell? ⟨gc, i, none⟩ = some (.bool v) := by
  rw [← hv]
  exact h.row.cell i hi
theorem Wd.free (h : Wd w1 wr gc n D) (i : Nat) : wr.frozen? ⟨gc, i, none⟩ = false := h.row.free i
theorem Wd.ls (h : Wd w1 wr gc n D) {gl : Nat} {L : Nat → Int} (hr : Row w1 gl 3 n (intsF L)) (hne : gl ≠ gc) (i : Nat) (hi : i < n) : wr.cell? ⟨gl, i, none⟩ = some (.int .i64 (L i)) :=
  (hr.kept h.grown (by simp; omega)).cell i hi
theorem Wd.mt (h : Wd w1 wr gc n D) {gm F : Nat} {H : Nat → Bool} (hm : ∀ i, i ≤ F → w1.cell? ⟨gm, i, none⟩ = some (.bool (H i))) (hne : gm ≠ gc) (i : Nat) (v : Bool) (hi : i ≤ F) (hv : H i = v) : wr.cell? ⟨gm, i, none⟩ = some (.bool v) := by
  rw [← hv]
  exact h.grown.cell (hm i hi) (by simp; omega)
end

/-! ### What holds at the head of slide's main loop; T lines are still to be looked at -/
structure Out (n : Nat) (L : Nat → Int) (H : Nat → Bool) (F0 : Nat) (D : Nat → Bool) (s g T : Nat) : Prop where
  sn : s ≤ n
  gap : fc D s = g
  tot : fc D n = F0
  rest : RestTo n L H D s
  cut : s < n → D s = true → Top D s
  cnt : T + F0 + s = n + g

theorem lex_lt {n T T' d d' : Nat} (h : T' < T) (hd : d' ≤ n) : T' * (n + 1) + d' < T * (n + 1) + d := by
  have h1 : (T' + 1) * (n + 1) ≤ T * (n + 1) := Nat.mul_le_mul_right _ h
  rw [Nat.succ_mul] at h1
  omega

section
variable {n : Nat} {L : Nat → Int} {H : Nat → Bool} {F0 : Nat} {D : Nat → Bool} {s e g T : Nat}
theorem Out.skip (h : Out n L H F0 D s g T) (hs : s < n) (hc : D s = false) : Out n L H F0 D (s + 1) (g + 1) T :=
  ⟨by omega, by rw [fc_no hc, h.gap], h.tot, h.rest.skip hc, fun _ _ t ht => by obtain rfl : t = s := (by omega); exact hc, by have := h.cnt; omega⟩
theorem Out.begin (h : Out n L H F0 D s g T) (hs : s < n) (hc : D s = true) : St n L H F0 D s (s + 1) g ∧ Top D s := by
  have := St.begin (L := L) (H := H) hs hc h.tot h.rest
  rw [h.gap] at this
  exact ⟨this, h.cut hs hc⟩
theorem Out.finish {s0 g0 : Nat} {D0 : Nat → Bool} (h0 : Out n L H F0 D0 s0 g0 T) (h : St n L H F0 D s e g) (htop : Top D s) (hbot : Bot n D e) (hE : s0 + 1 + g ≤ e + g0) (hr : H g = true ∨ e = n ∨ L s ≠ L e) :
    ∃ T', T' < T ∧ Out n L H F0 D e g T' := by
  have h1 := (fc_mono D h.en).2
  rw [h.tot, h.fce] at h1
  have h2 := h.en
  have h3 := h0.cnt
  have h4 := h.gle.1
  refine ⟨n + g - F0 - e, by omega, h.en, h.fce, h.tot, h.rests htop hr, fun he hc => ?_, by omega⟩
  rw [hbot he] at hc
  cases hc
theorem Top.zero : Top D 0 := fun t ht => by omega
theorem Top.of (h : D s = false) : Top D (s + 1) := fun t ht => by obtain rfl : t = s := (by omega); exact h
theorem Bot.of (h : D e = false) : Bot n D e := fun _ => h
theorem Bot.end_ (h : n ≤ e) : Bot n D e := fun h' => by omega
end

/-- Where the size loop leaves a run: 'mv' is Go's met. -/
def Fin (n : Nat) (L : Nat → Int) (H : Nat → Bool) (D : Nat → Bool) (s e : Nat) (mv : Int) : Prop :=
  (mv = -1 ∧ (e = n ∨ L s ≠ L e)) ∨ ∃ d m' : Nat, mv = (m' : Int) ∧ m' + d = e ∧ MetD H D s d

/-- The same inside the loop that goes down: where the run has grown since it was measured nothing is said. -/
def MetOk (H : Nat → Bool) (D : Nat → Bool) (s e s1 e1 : Nat) (mv : Int) : Prop :=
  mv = -1 ∨ e1 + s < e + s1 ∨ ∃ d m' : Nat, mv = (m' : Int) ∧ m' + d = e ∧ MetD H D s d
theorem MetOk.fin {n : Nat} {L : Nat → Int} {H : Nat → Bool} {D : Nat → Bool} {s e s1 e1 : Nat} {mv : Int} (h : MetOk H D s e s1 e1 mv) (hz : e1 + s = e + s1) (hr : e = n ∨ L s ≠ L e) : Fin n L H D s e mv := by
  rcases h with h | h | h
  · exact .inl ⟨h, hr⟩
  · omega
  · exact .inr h
theorem MetOk.new {n : Nat} {L : Nat → Int} {H : Nat → Bool} {F0 : Nat} {D : Nat → Bool} {s e g s1 e1 : Nat} (h : St n L H F0 D s e g) (ht : Top D s) (hh : H g = true) : MetOk H D s e s1 e1 (e : Int) :=
  .inr (.inr ⟨0, e, rfl, by omega, MetD.new h.gap hh ht⟩)
theorem MetOk.down {H : Nat → Bool} {D : Nat → Bool} {s e s1 e1 x : Nat} {mv : Int} (h : MetOk H D s e s1 e1 mv) (hse : s < e) (hz : e1 + s ≤ e + s1) (hx : e + 1 ≤ x) : MetOk H (put (put D s false) e true) (s + 1) x s1 e1 mv := by
  by_cases hx1 : x = e + 1
  · subst hx1
    rcases h with h | h | ⟨d, m', h1, h2, h3⟩
    · exact .inl h
    · exact .inr (.inl (by omega))
    · exact .inr (.inr ⟨d + 1, m', h1, by omega, h3.down hse⟩)
  · exact .inr (.inl (by omega))

end Go.Proofs.Qxb6603957a
