import Derived.Test.Qxb6602166aRows
import Derived.Test.Qxb6602166aPlainSkip
import Derived.Test.Qxb6602166aWalkB
import Derived.WalkKit
import Derived.Below
namespace Go.Proofs.Qxb6602166a
open Go.RowKit Plain Nest

/-- What mClose answers. -/
def CloseIs (f : Nat → Int) (n p : Nat) (r : Ending) : Prop :=
  r = .returned (.tuple #[.int .i64 0, .bool false]) ∨ ∃ q : Nat, q ≤ n ∧ p < q ∧ Closes f n p q ∧ r = .returned (.tuple #[.int .i64 q, .bool true])

theorem ret_close {a b : Int} (h : a = b) : Ending.returned (.tuple #[.int .i64 a, .bool true]) = .returned (.tuple #[.int .i64 b, .bool true]) := by rw [h]

/-- p lies behind the text. -/
theorem mclose_out (a : Option Addr) (n c : Nat) (p : Int) (w : World) (hp : (n : Int) ≤ p) :
    Calls Try.prog 13 #[.slice a n c, .int .i64 p] w fun r w' => r = .returned (.tuple #[.int .i64 0, .bool false]) ∧ w = w' := by
  go_enter Try.func13, Try.ntmps13
  go_wp2_with fail
  refine wp_loop_rounds 1 ?_; rw [rounds_succ]
  go_wp2_with fail
  go_ret2
  exact ⟨rfl, rfl⟩

set_option maxHeartbeats 1000000 in
theorem mclose_any (b o n c : Nat) (f : Nat → Int) (w : World) (hn : n ≤ 1048576)
    (hc : ∀ i, i < n → w.cell? ⟨b, o + i, none⟩ = some (.int .u8 (f i))) (k : Nat) : ∀ (p : Nat) (pz : Int), pz = p → p ≤ n → n - p < k →
    Calls Try.prog 13 #[.slice (some ⟨b, o, none⟩) n c, .int .i64 pz] w fun r w' => CloseIs f n p r ∧ w = w' := by
  induction k with
  | zero => intro p pz _ _ h; exact absurd h (by omega)
  | succ k ih =>
    intro p pz hpz hp hk
    subst hpz
    have IH : Hid (∀ (p : Nat) (pz : Int), pz = p → p ≤ n → n - p < k →
      Calls Try.prog 13 #[.slice (some ⟨b, o, none⟩) n c, .int .i64 pz] w fun r w' => CloseIs f n p r ∧ w = w') := ih
    clear ih
    go_enter Try.func13, Try.ntmps13
    go_wp2_with fail
    go_loop [1] (fun s => ∃ t : Nat, p ≤ t ∧ t ≤ n ∧ s = .int .i64 t ∧ ∀ d, Goes f n (d + 1) p (d + 1) t) (fun s => n - (intOf s).toNat)
    case atStart => exact ⟨p, Nat.le_refl _, hp, rfl, fun d => Goes.refl _ _ _ _⟩
    case round =>
      obtain ⟨t, hpt, htn, rfl, hre⟩ := hrel
      have HR : Hid (∀ d, Goes f n (d + 1) p (d + 1) t) := hre
      clear hre
      by_cases hlt : t < n
      · have hz : (t : Int) < (n : Int) := by omega
        have hcell := hc t hlt
        by_cases h34 : f t = 34
        · have hq : (f t == 34) = true := by simpa using h34
          have H34 : Hid (f t = 34) := h34
          clear h34
          go_wp2_with fail
          refine (mend_any b o n c t f w hn hlt hc).mono ?_
          rintro e w' ⟨hE, rfl⟩
          rcases hE with rfl | ⟨D, hD, rfl⟩
          · go_wp2_with fail
            go_ret2
            exact ⟨.inl rfl, rfl⟩
          · have hDn := hD.1
            have HD : Hid (StrEnd f n t D) := hD
            clear hD
            go_wp2_with fail
            go_round
            case rel => exact ⟨t + 1 + D + 1, by omega, by omega, by go_num, Closes.str HR.out hlt H34.out HD.out⟩
            case measure => simp [intOf]; omega
        · have hne34 : (f t == 34) = false := by simpa using h34
          by_cases ho : f t = 123 ∨ f t = 91
          · have HO : Hid (f t = 123 ∨ f t = 91) := ho
            rcases ho with ho | ho
            · have h1 : (f t == 123) = true := by simpa using ho
              clear ho h34
              go_wp2_with fail
              refine (IH.out (t + 1) _ (by omega) (by omega) (by omega)).mono ?_
              rintro e w' ⟨hE, rfl⟩
              rcases hE with rfl | ⟨q, hqn, hpq, hq, rfl⟩
              · go_wp2_with fail
                go_ret2
                exact ⟨.inl rfl, rfl⟩
              · have HQ : Hid (Closes f n (t + 1) q) := hq
                clear hq
                go_wp2_with fail
                go_round
                case rel => exact ⟨q, by omega, hqn, rfl, Closes.inner HR.out hlt HO.out HQ.out⟩
                case measure => simp [intOf]; omega
            · have h1 : (f t == 91) = true := by simpa using ho
              have h0 : (f t == 123) = false := by rw [ho]; rfl
              clear ho h34
              go_wp2_with fail
              refine (IH.out (t + 1) _ (by omega) (by omega) (by omega)).mono ?_
              rintro e w' ⟨hE, rfl⟩
              rcases hE with rfl | ⟨q, hqn, hpq, hq, rfl⟩
              · go_wp2_with fail
                go_ret2
                exact ⟨.inl rfl, rfl⟩
              · have HQ : Hid (Closes f n (t + 1) q) := hq
                clear hq
                go_wp2_with fail
                go_round
                case rel => exact ⟨q, by omega, hqn, rfl, Closes.inner HR.out hlt HO.out HQ.out⟩
                case measure => simp [intOf]; omega
          · have h1 : (f t == 123) = false := by simpa using fun e => ho (.inl e)
            have h2 : (f t == 91) = false := by simpa using fun e => ho (.inr e)
            by_cases hcl : f t = 125 ∨ f t = 93
            · have R : Hid (Closes f n p (t + 1)) := Closes.last HR.out hlt hcl
              rcases hcl with hcl | hcl
              · have h3 : (f t == 125) = true := by simpa using hcl
                clear hcl ho h34
                go_wp2_with go_in
                go_ret2
                exact ⟨.inr ⟨t + 1, by omega, by omega, R.out, ret_close (by omega)⟩, rfl⟩
              · have h3 : (f t == 93) = true := by simpa using hcl
                have h4 : (f t == 125) = false := by rw [hcl]; rfl
                clear hcl ho h34
                go_wp2_with go_in
                go_ret2
                exact ⟨.inr ⟨t + 1, by omega, by omega, R.out, ret_close (by omega)⟩, rfl⟩
            · have h3 : (f t == 125) = false := by simpa using fun e => hcl (.inl e)
              have h4 : (f t == 93) = false := by simpa using fun e => hcl (.inr e)
              have R : Hid (∀ d, Goes f n (d + 1) p (d + 1) (t + 1)) := Closes.other HR.out hlt ⟨h34, fun e => ho (.inl e), fun e => ho (.inr e), fun e => hcl (.inl e), fun e => hcl (.inr e)⟩
              clear hcl ho h34
              go_wp2_with go_in
              go_round
              case rel => exact ⟨t + 1, by omega, by omega, by go_num, R.out⟩
              case measure => simp [intOf]; omega
      · have hz : ¬ (t : Int) < (n : Int) := by omega
        go_wp2_with fail
        go_ret2
        exact ⟨.inl rfl, rfl⟩
end Go.Proofs.Qxb6602166a
