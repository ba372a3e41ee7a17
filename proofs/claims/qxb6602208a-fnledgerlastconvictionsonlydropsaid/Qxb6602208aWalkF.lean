import Derived.Test.Qxb6602208aRows
import Derived.WalkKit
import Derived.WalkSpells
import Derived.Below
import Derived.WalkLawsBesides
import Derived.Laws.FloatArith
namespace Go.Proofs.Qxb6602208a
open Go.RowKit

/-- The group that a credit's bits put a replica in. -/
def grp (x : Nat) : Int :=
  if (FloatKind.f64.format.order x 4605380978949069210 == some Ordering.gt) = true then 2
  else if (FloatKind.f64.format.order x 4599075939470750515 == some Ordering.gt) = true then 1
  else if (FloatKind.f64.format.order x 4599075939470750515 == some Ordering.eq) = true then 1 else 0

theorem ret_u8 {a b : Int} (h : a = b) : Ending.returned (.int .u8 a) = .returned (.int .u8 b) := by rw [h]

theorem group_any (x : Nat) (w : World) : Calls Try.prog 22 #[.float .f64 x] w fun r w' => r = .returned (.int .u8 (grp x)) ∧ w = w' := by
  by_cases h1 : (FloatKind.f64.format.order x 4605380978949069210 == some Ordering.gt) = true
  · have hg : Hid (grp x = 2) := by show grp x = 2; rw [grp, if_pos h1]
    go_enter Try.func22, Try.ntmps22
    go_wp2
    go_ret
    exact ⟨ret_u8 hg.out.symm, rfl⟩
  · have h1' : (FloatKind.f64.format.order x 4605380978949069210 == some Ordering.gt) = false := by simpa using h1
    by_cases h2 : (FloatKind.f64.format.order x 4599075939470750515 == some Ordering.gt) = true
    · have hg : Hid (grp x = 1) := by show grp x = 1; rw [grp, if_neg h1, if_pos h2]
      clear h1
      go_enter Try.func22, Try.ntmps22
      go_wp2
      go_ret
      exact ⟨ret_u8 hg.out.symm, rfl⟩
    · have h2' : (FloatKind.f64.format.order x 4599075939470750515 == some Ordering.gt) = false := by simpa using h2
      by_cases h3 : (FloatKind.f64.format.order x 4599075939470750515 == some Ordering.eq) = true
      · have hg : Hid (grp x = 1) := by show grp x = 1; rw [grp, if_neg h1, if_neg h2, if_pos h3]
        clear h1 h2
        go_enter Try.func22, Try.ntmps22
        go_wp2
        go_ret
        exact ⟨ret_u8 hg.out.symm, rfl⟩
      · have h3' : (FloatKind.f64.format.order x 4599075939470750515 == some Ordering.eq) = false := by simpa using h3
        have hg : Hid (grp x = 0) := by show grp x = 0; rw [grp, if_neg h1, if_neg h2, if_neg h3]
        clear h1 h2 h3
        go_enter Try.func22, Try.ntmps22
        go_wp2
        go_ret
        exact ⟨ret_u8 hg.out.symm, rfl⟩

/-- 1 divided by what is no NaN has an answer. -/
theorem div_some (x : Nat) (h : (FloatKind.f64.format.order x 0 == some Ordering.eq) = true) : ∃ q, floatBits .quo .f64 4607182418800017408 x = some q := by
  have h1 : FloatKind.f64.format.read 4607182418800017408 = Ieee.Datum.number false 4503599627370496 (-52) := by decide
  have h0 : (FloatKind.f64.format.read x).order (FloatKind.f64.format.read 0) = some Ordering.eq := by simpa [Ieee.Format.order] using h
  show ∃ q, ((FloatKind.f64.format.read 4607182418800017408).quotient _ (FloatKind.f64.format.read x)).map _ = some q
  rw [h1]
  cases hx : FloatKind.f64.format.read x with
  | number t n j =>
    by_cases hn : n = 0
    · subst hn
      exact ⟨_, rfl⟩
    · simp [Ieee.Datum.quotient, hn]
  | infinity t => exact ⟨_, rfl⟩
  | nan t f => rw [hx] at h0; simp [Ieee.Datum.order] at h0

/-- sameFloat of a number with itself, NaN among them. -/
theorem same_float (x : Nat) (w : World) : Calls Try.prog 21 #[.float .f64 x, .float .f64 x] w fun r w' => r = .returned (.bool true) ∧ w = w' := by
  by_cases h0 : (FloatKind.f64.format.order x 0 == some Ordering.eq) = true
  · obtain ⟨q, hq⟩ := div_some x h0
    have hrun := fun (W : World) => run_float_arith (P := Try.prog) W .quo 22 .f64 4607182418800017408 x q hq
    clear hq
    go_enter Try.func21, Try.ntmps21
    go_wp2
    all_goals go_ret
    all_goals exact ⟨by simp, rfl⟩
  · have h0' : (FloatKind.f64.format.order x 0 == some Ordering.eq) = false := by simpa using h0
    clear h0
    go_enter Try.func21, Try.ntmps21
    go_wp2
    all_goals go_ret
    all_goals exact ⟨by simp, rfl⟩

/-- firstView answers a number that hangs on the epoch alone. -/
theorem view_any (x : Int) : ∃ g : Int, ∀ w, Calls Try.prog 25 #[.int .u64 x] w fun r w' => r = .returned (.int .u64 g) ∧ w = w' := by
  refine ⟨IntKind.u64.wrap (IntKind.u64.wrap (x - 1) * 4294967296), fun w => ?_⟩
  go_enter Try.func25, Try.ntmps25
  go_wp2
  go_ret
  exact ⟨rfl, rfl⟩
end Go.Proofs.Qxb6602208a
