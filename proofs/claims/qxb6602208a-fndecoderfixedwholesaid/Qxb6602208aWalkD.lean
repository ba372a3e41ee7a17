import Derived.Test.Qxb6602208aRows
import Derived.WalkKit
import Derived.WalkSpells
import Derived.Below
import Derived.WalkSmall
import Derived.Deep.OwnRows
import Derived.Deep.QuietTactic
import Derived.BigQuiet
import Derived.Deep.Light
namespace Go.Proofs.Qxb6602208a
open Go.RowKit

theorem ret_bool {a b : Bool} (h : a = b) : Ending.returned (.bool a) = .returned (.bool b) := by rw [h]

set_option maxHeartbeats 400000 in
theorem bytes_yes (a : Option Addr) (n c : Nat) (s : Bool) (e : Int) (w : World) (hn : n ≤ 1048576) :
    Calls Try.prog 8 #[.slice a n c, .bool s, .int .u64 e] w fun r w' => r = .returned (.bool true) ∧ w = w' := by
  have h1 : (n : Int) ≤ 1048576 := by omega
  go_enter Try.func8, Try.ntmps8
  go_wp2
  go_ret
  exact ⟨rfl, rfl⟩

set_option maxHeartbeats 400000 in
theorem bytes_no (a : Option Addr) (n c : Nat) (s : Bool) (e : Int) (w : World) (hn : ¬ n ≤ 1048576) :
    Calls Try.prog 8 #[.slice a n c, .bool s, .int .u64 e] w fun r w' => r = .returned (.bool false) ∧ w = w' := by
  have h1 : (1048576 : Int) < (n : Int) := by omega
  go_enter Try.func8, Try.ntmps8
  go_wp2
  go_ret
  exact ⟨rfl, rfl⟩

/-- sameBytes of a slice with itself. -/
theorem same_any (a : Option Addr) (b n c : Nat) (f : Nat → Int) (w : World) (hn : n ≤ 1048576) (ha : 0 < n → a = some ⟨b, 0, none⟩)
    (hc : ∀ i, i < n → w.cell? ⟨b, i, none⟩ = some (.int .u8 (f i))) :
    Calls Try.prog 11 #[.slice a n c, .slice a n c] w fun r w' => r = .returned (.bool true) ∧ ∃ k, w' = w.drewN k := by
  go_enter Try.func11, Try.ntmps11
  go_wp2
  go_loopw [5] (fun i wr => ∃ k q : Nat, k ≤ n ∧ i = .int .i64 k ∧ wr = w.drewN q) (fun i _ => n - (intOf i).toNat)
  case atStart => exact ⟨0, 0, Nat.zero_le _, rfl, rfl⟩
  case round =>
    obtain ⟨k, q, hk, rfl, rfl⟩ := hrel
    by_cases hlt : k < n
    · obtain rfl := ha (by omega)
      have hz : (k : Int) < (n : Int) := by omega
      have hcell := hc k hlt
      go_wp2
      go_quiet (fail)
      go_wp2
      go_roundw
      case rel => exact ⟨k + 1, _, by omega, by go_num, rfl⟩
      case measure => simp [intOf]; omega
    · have hz : ¬ (k : Int) < (n : Int) := by omega
      go_wp2
      go_ret
      exact ⟨rfl, q, rfl⟩

/-- isConcat of the two parts of a slice. -/
theorem concat_any (xa ya za : Option Addr) (b n m cx cy cz : Nat) (f : Nat → Int) (w : World) (hn : n + m ≤ 1048576)
    (hx : 0 < n → xa = some ⟨b, 0, none⟩) (hy : 0 < m → ya = some ⟨b, n, none⟩) (hza : 0 < n + m → za = some ⟨b, 0, none⟩)
    (hc : ∀ i, i < n + m → w.cell? ⟨b, i, none⟩ = some (.int .u8 (f i))) :
    Calls Try.prog 12 #[.slice xa n cx, .slice ya m cy, .slice za (n + m) cz] w fun r w' => r = .returned (.bool true) ∧ ∃ k, w' = w.drewN k := by
  go_enter Try.func12, Try.ntmps12
  go_wp2
  go_loopw [7] (fun i wr => ∃ k q : Nat, k ≤ n ∧ i = .int .i64 k ∧ wr = w.drewN q) (fun i _ => n - (intOf i).toNat)
  case atStart => exact ⟨0, 0, Nat.zero_le _, rfl, rfl⟩
  case round =>
    obtain ⟨k, q, hk, rfl, rfl⟩ := hrel
    by_cases hlt : k < n
    · obtain rfl := hx (by omega)
      obtain rfl := hza (by omega)
      have hz : (k : Int) < (n : Int) := by omega
      have hz2 : (k : Int) < (n : Int) + (m : Int) := by omega
      have hcell := hc k (by omega)
      go_wp2
      go_quiet (fail)
      go_wp2
      go_roundw
      case rel => exact ⟨k + 1, _, by omega, by go_num, rfl⟩
      case measure => simp [intOf]; omega
    · have hz : ¬ (k : Int) < (n : Int) := by omega
      go_wp2
      go_loopw [8] (fun i wr => ∃ k q : Nat, k ≤ m ∧ i = .int .i64 k ∧ wr = w.drewN q) (fun i _ => m - (intOf i).toNat)
      case atStart => exact ⟨0, _, Nat.zero_le _, rfl, rfl⟩
      case round =>
        obtain ⟨k2, q2, hk2, rfl, rfl⟩ := hrel
        clear hz hlt
        by_cases hlt : k2 < m
        · obtain rfl := hy (by omega)
          obtain rfl := hza (by omega)
          have hz : (k2 : Int) < (m : Int) := by omega
          have hz2 : (n : Int) + (k2 : Int) < (n : Int) + (m : Int) := by omega
          have e1 : ((n : Int) + (k2 : Int)).toNat = n + k2 := by omega
          have hcell := hc (n + k2) (by omega)
          go_wp2
          go_quiet (fail)
          go_wp2
          go_roundw
          case rel => exact ⟨k2 + 1, _, by omega, by go_num, rfl⟩
          case measure => simp [intOf]; omega
        · have hz : ¬ (k2 : Int) < (m : Int) := by omega
          go_wp2
          go_ret
          exact ⟨rfl, _, rfl⟩
end Go.Proofs.Qxb6602208a
