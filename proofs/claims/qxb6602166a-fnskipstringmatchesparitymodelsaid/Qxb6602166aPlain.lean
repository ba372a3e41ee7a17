/-
  The plain laws of strings and containers in a JSON text: no Go in sight. f: the bytes by their index; n: their number.
-/
namespace Go.Proofs.Qxb6602166a.Plain

/-- Is the byte at p + 1 + d escaped, the string being opened at p? -/
def esc (f : Nat → Int) (p : Nat) : Nat → Bool
  | 0 => false
  | d + 1 => if f (p + 1 + d) = 92 then !(esc f p d) else false

/-- Is there a backslash among the first d bytes behind p? -/
def anyB (f : Nat → Int) (p : Nat) : Nat → Bool
  | 0 => false
  | d + 1 => if f (p + 1 + d) = 92 then true else anyB f p d

theorem esc_step (f : Nat → Int) (p d : Nat) : esc f p (d + 1) = if f (p + 1 + d) = 92 then !(esc f p d) else false := rfl
theorem any_step (f : Nat → Int) (p d : Nat) : anyB f p (d + 1) = if f (p + 1 + d) = 92 then true else anyB f p d := rfl

/-- The d-th byte behind p is a quote that is not escaped. -/
def IsEnd (f : Nat → Int) (p d : Nat) : Prop := f (p + 1 + d) = 34 ∧ esc f p d = false
def NoEnd (f : Nat → Int) (p D : Nat) : Prop := ∀ d, d < D → ¬ IsEnd f p d
/-- The string that opens at p is closed by the D-th byte behind p. -/
def StrEnd (f : Nat → Int) (n p D : Nat) : Prop := p + 1 + D < n ∧ IsEnd f p D ∧ NoEnd f p D

theorem NoEnd.zero (f : Nat → Int) (p : Nat) : NoEnd f p 0 := fun _ h => absurd h (Nat.not_lt_zero _)
theorem NoEnd.succ {f : Nat → Int} {p d : Nat} (h : NoEnd f p d) (hd : ¬ IsEnd f p d) : NoEnd f p (d + 1) := fun i hi => by
  by_cases e : i = d
  · subst e; exact hd
  · exact h i (by omega)

theorem esc_run (f : Nat → Int) (p k d : Nat) (h : ∀ i, k ≤ i → i < k + d → f (p + 1 + i) = 92) : esc f p (k + d) = ((decide (d % 2 = 1)) != esc f p k) := by
  induction d with
  | zero => simp
  | succ d ih =>
    have ih' := ih (fun i h1 h2 => h i h1 (by omega))
    rw [← Nat.add_assoc, esc_step, if_pos (h (k + d) (by omega) (by omega)), ih']
    have e : decide ((d + 1) % 2 = 1) = !decide (d % 2 = 1) := by
      by_cases hd : d % 2 = 1
      · have : (d + 1) % 2 ≠ 1 := by omega
        simp [hd, this]
      · have : (d + 1) % 2 = 1 := by omega
        simp [hd, this]
    rw [e]
    cases decide (d % 2 = 1) <;> cases esc f p k <;> rfl

/-- The run of backslashes that ends at d, counted from behind: r of them, and no more. -/
theorem esc_back (f : Nat → Int) (p d r : Nat) (hr : r ≤ d) (h : ∀ i, d - r ≤ i → i < d → f (p + 1 + i) = 92) (hstop : r < d → f (p + 1 + (d - r - 1)) ≠ 92) : esc f p d = decide (r % 2 = 1) := by
  have hs := esc_run f p (d - r) r (fun i h1 h2 => h i h1 (by omega))
  rw [show d - r + r = d from by omega] at hs
  have h0 : esc f p (d - r) = false := by
    by_cases e : r = d
    · subst e; rw [Nat.sub_self]; rfl
    · obtain ⟨m, hm⟩ : ∃ m, d - r = m + 1 := ⟨d - r - 1, by omega⟩
      have := hstop (by omega)
      rw [hm, esc_step, if_neg (by rw [hm] at this; simpa using this)]
  rw [hs, h0]
  simp

/-! ### skipString's way: it stands at unescaped bytes alone -/

theorem StrEnd.plain {f : Nat → Int} {n p D d : Nat} (h : StrEnd f n p D) (hd : d < D) (he : esc f p d = false) : f (p + 1 + d) ≠ 34 := fun e => h.2.2 d hd ⟨e, he⟩

theorem StrEnd.two {f : Nat → Int} {n p D d : Nat} (h : StrEnd f n p D) (hd : d < D) (he : esc f p d = false) (h92 : f (p + 1 + d) = 92) : d + 2 ≤ D ∧ esc f p (d + 2) = false := by
  have e1 : esc f p (d + 1) = true := by rw [esc_step, if_pos h92, he]; rfl
  have : d + 1 ≠ D := fun e => by have := h.2.1.2; rw [← e, e1] at this; cases this
  refine ⟨by omega, ?_⟩
  rw [esc_step, e1]
  split <;> rfl

theorem esc_plain {f : Nat → Int} {p d : Nat} (h : f (p + 1 + d) ≠ 92) : esc f p (d + 1) = false := by rw [esc_step, if_neg h]
theorem any_plain {f : Nat → Int} {p d : Nat} (h : f (p + 1 + d) ≠ 92) : anyB f p (d + 1) = anyB f p d := by rw [any_step, if_neg h]
theorem any_hit {f : Nat → Int} {p d : Nat} (h : f (p + 1 + d) = 92) : anyB f p (d + 1) = true := by rw [any_step, if_pos h]
theorem any_two {f : Nat → Int} {p d : Nat} (h : f (p + 1 + d) = 92) : anyB f p (d + 2) = true := by
  rw [any_step, any_hit h]
  split <;> rfl

#print axioms esc_back
end Go.Proofs.Qxb6602166a.Plain
