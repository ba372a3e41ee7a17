/-
  The plain laws on line breaks: no Go in sight.
-/
import Derived.Lib.Join
import Derived.Laws.Strings
namespace Go.Proofs.Qxb6602234a.Plain

/-- How many line breaks a text holds. -/
def nl (l : List UInt8) : Nat := l.count 10

theorem nl_append (a b : List UInt8) : nl (a ++ b) = nl a + nl b := List.count_append
theorem nl_le (l : List UInt8) : nl l ≤ l.length := List.count_le_length
theorem nl_snoc (l : List UInt8) (c : UInt8) : nl (l ++ [c]) = nl l + if c = 10 then 1 else 0 := by
  rw [nl_append]
  by_cases h : c = 10 <;> simp [nl, h]

/-- The text of one error. -/
def text (c n m : List UInt8) : List UInt8 := if n = [] then c ++ [58, 32] ++ m else c ++ [32, 110, 111, 100, 101, 61] ++ n ++ [58, 32] ++ m

theorem nl_text (c n m : List UInt8) : nl (text c n m) = nl c + nl n + nl m := by
  unfold text
  by_cases h : n = []
  · subst h
    rw [if_pos rfl, nl_append, nl_append]
    simp [nl]
  · rw [if_neg h, nl_append, nl_append, nl_append, nl_append]
    simp [nl]

theorem text_le (c n m : List UInt8) : (text c n m).length ≤ c.length + n.length + m.length + 8 := by
  unfold text
  split <;> simp <;> omega

/-- The sum of f below k. -/
def sum (f : Nat → Nat) : Nat → Nat
  | 0 => 0
  | k + 1 => sum f k + f k

theorem sum_succ (f : Nat → Nat) (k : Nat) : sum f (k + 1) = sum f k + f k := rfl
theorem sum_le {f g : Nat → Nat} {c : Nat} (n : Nat) (h : ∀ i, i < n → f i ≤ g i + c) : sum f n ≤ sum g n + n * c := by
  induction n with
  | zero => simp [sum]
  | succ n ih =>
    have h1 := ih (fun i hi => h i (by omega))
    have h2 := h n (by omega)
    rw [sum_succ, sum_succ, Nat.succ_mul]
    omega
theorem sum_mono (f : Nat → Nat) {k n : Nat} (h : k ≤ n) : sum f k ≤ sum f n := by
  induction n with
  | zero => have : k = 0 := by omega
            subst this; exact Nat.le_refl _
  | succ n ih =>
    by_cases e : k = n + 1
    · subst e; exact Nat.le_refl _
    · have := ih (by omega)
      rw [sum_succ]
      omega
theorem sum_congr {f g : Nat → Nat} (n : Nat) (h : ∀ i, i < n → f i = g i) : sum f n = sum g n := by
  induction n with
  | zero => rfl
  | succ n ih => rw [sum_succ, sum_succ, ih (fun i hi => h i (by omega)), h n (by omega)]

/-- The elements' own line breaks, and one between each two. -/
theorem nl_tail (T : Nat → List UInt8) (n s : Nat) : nl (Lib.joinTail [10] ((List.range' s n).map T)) = sum (fun i => nl (T (s + i))) n + n := by
  induction n generalizing s with
  | zero => simp [Lib.joinTail, nl, sum]
  | succ n ih =>
    have e : Lib.joinTail [10] ((List.range' s (n + 1)).map T) = [10] ++ T s ++ Lib.joinTail [10] ((List.range' (s + 1) n).map T) := by
      simp [Lib.joinTail, List.range'_succ]
    have e2 : ∀ (f : Nat → Nat) (n : Nat), sum f (n + 1) = f 0 + sum (fun i => f (i + 1)) n := by
      intro f n
      induction n with
      | zero => simp [sum]
      | succ n ih => rw [sum_succ, ih, sum_succ]; omega
    rw [e, nl_append, nl_append, ih (s + 1), e2]
    have e3 : (fun i => nl (T (s + 1 + i))) = fun i => nl (T (s + (i + 1))) := by
      funext i
      rw [show s + 1 + i = s + (i + 1) from by omega]
    rw [e3]
    simp [nl]
    omega

theorem nl_join (T : Nat → List UInt8) (n : Nat) : nl (Lib.join ((List.range n).map T) [10]) = sum (fun i => nl (T i)) n + (n - 1) := by
  cases n with
  | zero => simp [Lib.join, nl, sum]
  | succ n =>
    rw [List.range_eq_range', List.range'_succ, List.map_cons, Lib.join_cons, nl_append, nl_tail]
    have e2 : ∀ (f : Nat → Nat) (n : Nat), sum f (n + 1) = f 0 + sum (fun i => f (0 + 1 + i)) n := by
      intro f n
      induction n with
      | zero => simp [sum]
      | succ n ih => rw [sum_succ, ih, sum_succ]; have : 0 + 1 + n = n + 1 := by omega
                     rw [this]; omega
    rw [e2]
    omega

theorem len_tail (T : Nat → List UInt8) (n s : Nat) : (Lib.joinTail [10] ((List.range' s n).map T)).length = sum (fun i => (T (s + i)).length) n + n := by
  induction n generalizing s with
  | zero => simp [Lib.joinTail, sum]
  | succ n ih =>
    have e : Lib.joinTail [10] ((List.range' s (n + 1)).map T) = [10] ++ T s ++ Lib.joinTail [10] ((List.range' (s + 1) n).map T) := by
      simp [Lib.joinTail, List.range'_succ]
    have e2 : ∀ (f : Nat → Nat) (n : Nat), sum f (n + 1) = f 0 + sum (fun i => f (i + 1)) n := by
      intro f n
      induction n with
      | zero => simp [sum]
      | succ n ih => rw [sum_succ, ih, sum_succ]; omega
    rw [e, List.length_append, List.length_append, ih (s + 1), e2]
    have e3 : (fun i => (T (s + 1 + i)).length) = fun i => (T (s + (i + 1))).length := by
      funext i
      rw [show s + 1 + i = s + (i + 1) from by omega]
    rw [e3]
    simp
    omega

theorem len_join (T : Nat → List UInt8) (n : Nat) : (Lib.join ((List.range n).map T) [10]).length ≤ sum (fun i => (T i).length) n + n := by
  cases n with
  | zero => simp [Lib.join, sum]
  | succ n =>
    rw [List.range_eq_range', List.range'_succ, List.map_cons, Lib.join_cons, List.length_append, len_tail]
    have e2 : ∀ (f : Nat → Nat) (n : Nat), sum f (n + 1) = f 0 + sum (fun i => f (0 + 1 + i)) n := by
      intro f n
      induction n with
      | zero => simp [sum]
      | succ n ih => rw [sum_succ, ih, sum_succ]; have : 0 + 1 + n = n + 1 := by omega
                     rw [this]; omega
    rw [e2]
    omega

#print axioms nl_join
#print axioms len_join
end Go.Proofs.Qxb6602234a.Plain
