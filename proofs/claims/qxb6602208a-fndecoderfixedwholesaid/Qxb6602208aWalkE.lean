import Derived.Test.Qxb6602208aRows
import Derived.WalkKit
import Derived.WalkSpells
import Derived.Below
import Derived.WalkSmall
import Derived.Deep.OwnRows
import Derived.Deep.QuietTactic
import Derived.BigQuiet
import Derived.Deep.Light
namespace Go.Proofs.Qxb6602208a
open Go.RowKit

/-- Not enough, or short already. -/
theorem fixed_short (a : Option Addr) (n c : Nat) (s : Bool) (e : Int) (w : World) (hn : n ≤ 1048576) (_he : 0 ≤ e) (hs : s = false → (n : Int) < e) :
    Calls Try.prog 10 #[.slice a n c, .bool s, .int .u64 e] w fun r w' => r = .returned (.tuple #[.slice none 0 0, .slice a n c, .bool true]) ∧ Below w.heap.size w w' := by
  cases s
  · have h1 := hs rfl
    clear hs
    go_enter Try.func10, Try.ntmps10
    go_wp2
    go_quiet (fail)
    go_wp2
    go_ret3
    exact ⟨rfl, below_drewN ((Below.refl _ _).alloc (Nat.le_refl _) _) _⟩
  · clear hs
    go_enter Try.func10, Try.ntmps10
    go_wp2
    go_quiet (fail)
    go_wp2
    go_ret3
    exact ⟨rfl, below_drewN ((Below.refl _ _).alloc (Nat.le_refl _) _) _⟩

theorem fixed_fit (a : Option Addr) (n e : Nat) (w : World) (hn : n ≤ 1048576) (he : e < n) :
    Calls Try.prog 10 #[.slice a n n, .bool false, .int .u64 e] w fun r w' => r = .returned (.tuple #[.slice a e n, .slice (a.map fun x => x.add e) (n - e) (n - e), .bool false]) ∧ Below w.heap.size w w' := by
  have h1 : (e : Int) < (n : Int) := by omega
  have h2 : ¬ n < e := by omega
  have h3 : ¬ n = e := by omega
  go_enter Try.func10, Try.ntmps10
  go_wp2
  go_quiet (fail)
  go_wp2
  go_ret3
  exact ⟨rfl, below_drewN ((Below.refl _ _).alloc (Nat.le_refl _) _) _⟩

theorem fixed_all (a : Option Addr) (n : Nat) (w : World) (hn : n ≤ 1048576) :
    Calls Try.prog 10 #[.slice a n n, .bool false, .int .u64 n] w fun r w' => ∃ a', r = .returned (.tuple #[.slice a n n, .slice a' 0 0, .bool false]) ∧ Below w.heap.size w w' := by
  go_enter Try.func10, Try.ntmps10
  go_wp2
  go_quiet (fail)
  go_wp2
  go_ret3
  exact ⟨_, rfl, below_drewN ((Below.refl _ _).alloc (Nat.le_refl _) _) _⟩
end Go.Proofs.Qxb6602208a
