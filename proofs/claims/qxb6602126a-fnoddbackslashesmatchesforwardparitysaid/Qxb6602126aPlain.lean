/-
  The plain law: the parity of the trailing run of backslashes, counted from behind, is the parity reckoned from the front. No Go in sight.
-/
namespace Go.Proofs.Qxb6602126a.Plain

/-- The parity bit behind the first n bytes, reckoned from the front. -/
def fwd (f : Nat → Int) (b : Bool) : Nat → Bool
  | 0 => b
  | n + 1 => if f n = 92 then !(fwd f b n) else false

/-- What oddBackslashes answers once its loop has come down to k. -/
def back (e k : Nat) (b : Bool) : Bool :=
  if k = 0 then (decide ((e - k) % 2 = 1)) != b else decide ((e - k) % 2 = 1)

theorem fwd_step (f : Nat → Int) (b : Bool) (n : Nat) : fwd f b (n + 1) = if f n = 92 then !(fwd f b n) else false := rfl

/-- From k up to e all bytes are backslashes: the parity at e is the parity at k, turned e - k times. -/
theorem fwd_run (f : Nat → Int) (b : Bool) (k d : Nat) (h : ∀ i, k ≤ i → i < k + d → f i = 92) : fwd f b (k + d) = ((decide (d % 2 = 1)) != fwd f b k) := by
  induction d with
  | zero => simp
  | succ d ih =>
    have ih' := ih (fun i h1 h2 => h i h1 (by omega))
    rw [← Nat.add_assoc, fwd_step, if_pos (h (k + d) (by omega) (by omega)), ih']
    have e : decide ((d + 1) % 2 = 1) = !decide (d % 2 = 1) := by
      by_cases hd : d % 2 = 1
      · have : (d + 1) % 2 ≠ 1 := by omega
        simp [hd, this]
      · have : (d + 1) % 2 = 1 := by omega
        simp [hd, this]
    rw [e]
    cases decide (d % 2 = 1) <;> cases fwd f b k <;> rfl

theorem back_eq (f : Nat → Int) (b : Bool) (e k : Nat) (hk : k ≤ e) (h : ∀ i, k ≤ i → i < e → f i = 92) (hstop : 0 < k → f (k - 1) ≠ 92) : back e k b = fwd f b e := by
  have hr := fwd_run f b k (e - k) (fun i h1 h2 => h i h1 (by omega))
  rw [show k + (e - k) = e from by omega] at hr
  rw [hr]
  unfold back
  by_cases h0 : k = 0
  · subst h0
    simp [fwd]
  · rw [if_neg h0]
    obtain ⟨m, rfl⟩ : ∃ m, k = m + 1 := ⟨k - 1, by omega⟩
    rw [fwd_step, if_neg (by simpa using hstop (by omega))]
    simp

#print axioms back_eq
end Go.Proofs.Qxb6602126a.Plain
