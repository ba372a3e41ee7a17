/-
  The plain laws of containers in a JSON text: Skip's steps by depth and place. No Go in sight.
-/
import Derived.Test.Qxb6602166aPlain
namespace Go.Proofs.Qxb6602166a.Nest
open Go.Proofs.Qxb6602166a.Plain (StrEnd)

/-- One step of Skip at depth d, place p. -/
def SkStep (f : Nat → Int) (n d p d' p' : Nat) : Prop :=
  0 < d ∧ p < n ∧ ((f p = 34 ∧ d' = d ∧ ∃ D, StrEnd f n p D ∧ p' = p + 1 + D + 1) ∨ ((f p = 123 ∨ f p = 91) ∧ d' = d + 1 ∧ p' = p + 1) ∨
    ((f p = 125 ∨ f p = 93) ∧ d' + 1 = d ∧ p' = p + 1) ∨ ((f p ≠ 34 ∧ f p ≠ 123 ∧ f p ≠ 91 ∧ f p ≠ 125 ∧ f p ≠ 93) ∧ d' = d ∧ p' = p + 1))

/-- k steps. -/
def SkSteps (f : Nat → Int) (n : Nat) : Nat → Nat → Nat → Nat → Nat → Prop
  | 0, d, p, d', p' => d' = d ∧ p' = p
  | k + 1, d, p, d', p' => ∃ d1 p1, SkStep f n d p d1 p1 ∧ SkSteps f n k d1 p1 d' p'

/-- From depth d at p Skip comes to depth d' at p'. -/
def Goes (f : Nat → Int) (n d p d' p' : Nat) : Prop := ∃ k, SkSteps f n k d p d' p'

theorem Goes.refl (f : Nat → Int) (n d p : Nat) : Goes f n d p d p := ⟨0, rfl, rfl⟩
theorem Goes.one {f : Nat → Int} {n d p d' p' : Nat} (h : SkStep f n d p d' p') : Goes f n d p d' p' := ⟨1, d', p', h, rfl, rfl⟩

theorem SkSteps.trans {f : Nat → Int} {n d1 p1 d2 p2 : Nat} : ∀ {a b d p : Nat}, SkSteps f n a d p d1 p1 → SkSteps f n b d1 p1 d2 p2 → SkSteps f n (a + b) d p d2 p2
  | 0, b, d, p, ⟨h1, h2⟩, h => by subst h1; subst h2; rw [Nat.zero_add]; exact h
  | a + 1, b, d, p, ⟨d', p', hs, hr⟩, h => by rw [Nat.succ_add]; exact ⟨d', p', hs, SkSteps.trans hr h⟩

theorem Goes.trans {f : Nat → Int} {n d p d1 p1 d2 p2 : Nat} (h : Goes f n d p d1 p1) (h' : Goes f n d1 p1 d2 p2) : Goes f n d p d2 p2 := by
  obtain ⟨a, ha⟩ := h
  obtain ⟨b, hb⟩ := h'
  exact ⟨a + b, ha.trans hb⟩

/-- The container whose inside begins at p is closed just ahead of q: at whatever depth. -/
def Closes (f : Nat → Int) (n p q : Nat) : Prop := ∀ d, Goes f n (d + 1) p d q


theorem Closes.str {f : Nat → Int} {n p t D : Nat} (h : ∀ d, Goes f n (d + 1) p (d + 1) t) (ht : t < n) (h34 : f t = 34) (hD : StrEnd f n t D) : ∀ d, Goes f n (d + 1) p (d + 1) (t + 1 + D + 1) :=
  fun d => (h d).trans (Goes.one ⟨by omega, ht, .inl ⟨h34, rfl, D, hD, rfl⟩⟩)

theorem Closes.inner {f : Nat → Int} {n p t q : Nat} (h : ∀ d, Goes f n (d + 1) p (d + 1) t) (ht : t < n) (ho : f t = 123 ∨ f t = 91) (hq : Closes f n (t + 1) q) : ∀ d, Goes f n (d + 1) p (d + 1) q :=
  fun d => ((h d).trans (Goes.one ⟨by omega, ht, .inr (.inl ⟨ho, rfl, rfl⟩)⟩)).trans (hq (d + 1))

theorem Closes.last {f : Nat → Int} {n p t : Nat} (h : ∀ d, Goes f n (d + 1) p (d + 1) t) (ht : t < n) (hc : f t = 125 ∨ f t = 93) : Closes f n p (t + 1) :=
  fun d => (h d).trans (Goes.one ⟨by omega, ht, .inr (.inr (.inl ⟨hc, rfl, rfl⟩))⟩)

theorem Closes.other {f : Nat → Int} {n p t : Nat} (h : ∀ d, Goes f n (d + 1) p (d + 1) t) (ht : t < n) (ho : f t ≠ 34 ∧ f t ≠ 123 ∧ f t ≠ 91 ∧ f t ≠ 125 ∧ f t ≠ 93) : ∀ d, Goes f n (d + 1) p (d + 1) (t + 1) :=
  fun d => (h d).trans (Goes.one ⟨by omega, ht, .inr (.inr (.inr ⟨ho, rfl, rfl⟩))⟩)

#print axioms Closes.inner
end Go.Proofs.Qxb6602166a.Nest
