import Derived.Test.Qxb6602234aRows
import Derived.Test.Qxb6602234aWalkB
import Derived.WalkKit
import Derived.Below
namespace Go.Proofs.Qxb6602234a
open Go.RowKit Plain

def FitIs (n : Nat) (C N M : Nat → ByteArray) (r : Ending) : Prop := r = .returned (.bool false) ∨ (r = .returned (.bool true) ∧ n ≤ 4096 ∧ 48 * n + sum (wt C N M) n ≤ 1048576)

set_option maxHeartbeats 1000000 in
theorem fit_any (a : Option Addr) (n c : Nat) (C N M : Nat → ByteArray) (w : World) (hn : n ≤ maxLen) (hS : Small n C N M) (hv : View3 w a n c C N M) :
    Calls Try.prog 5 #[.slice a n c] w fun r w' => FitIs n C N M r ∧ w = w' := by
  unfold maxLen at hn
  unfold Small maxLen at hS
  by_cases g : (4096 : Int) < n
  · go_enter Try.func5, Try.ntmps5
    go_wp2
    go_ret
    exact ⟨.inl rfl, rfl⟩
  · go_enter Try.func5, Try.ntmps5
    go_wp2
    go_loop [3, 4] (fun t i => ∃ k : Nat, k ≤ n ∧ i = .int .i64 k ∧ 48 * n + sum (wt C N M) k ≤ 1048576 ∧ t = .int .i64 (48 * (n : Int) + (sum (wt C N M) k : Nat))) (fun _ i => n - (intOf i).toNat)
    case atStart => exact ⟨0, Nat.zero_le _, rfl, by simp [sum]; omega, by simp [sum]; omega⟩
    case round =>
      obtain ⟨k, hk, rfl, hz1, rfl⟩ := hrel
      by_cases hlt : k < n
      · have hkz : (k : Int) < (n : Int) := by omega
        rcases hv with ⟨_, h0, _⟩ | ⟨x, b, o, rfl, ha, hc⟩
        · exact absurd hlt (by omega)
        · obtain rfl := ha (by omega)
          obtain ⟨c0, c1, c2⟩ := hc k hlt
          obtain ⟨s0, s1, s2⟩ := hS k hlt
          have HW : Hid (sum (wt C N M) (k + 1) = sum (wt C N M) k + ((C k).size + (N k).size + (M k).size)) := sum_succ _ _
          clear hc ha hS
          by_cases l0 : (1048576 : Int) < (C k).size
          · go_wp2
            go_ret
            exact ⟨.inl rfl, rfl⟩
          · by_cases l1 : (1048576 : Int) < (N k).size
            · go_wp2
              go_ret
              exact ⟨.inl rfl, rfl⟩
            · by_cases l2 : (1048576 : Int) < (M k).size
              · go_wp2
                go_ret
                exact ⟨.inl rfl, rfl⟩
              · by_cases l3 : (1048576 : Int) < 48 * (n : Int) + (sum (wt C N M) k : Nat) + (C k).size + (N k).size + (M k).size
                · go_wp2
                  go_ret
                  exact ⟨.inl rfl, rfl⟩
                · go_wp2
                  go_round
                  case rel => exact ⟨k + 1, by omega, by go_num, by rw [HW.out]; omega, by rw [HW.out]; go_num⟩
                  case measure => simp [intOf]; omega
      · have hkz : ¬ (k : Int) < (n : Int) := by omega
        obtain rfl : k = n := by omega
        go_wp2
        go_ret
        exact ⟨.inr ⟨rfl, by omega, hz1⟩, rfl⟩
end Go.Proofs.Qxb6602234a
