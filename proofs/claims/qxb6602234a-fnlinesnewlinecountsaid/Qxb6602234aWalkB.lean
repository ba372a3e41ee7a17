import Derived.Test.Qxb6602234aRows
import Derived.Test.Qxb6602234aPlain
import Derived.WalkKit
import Derived.Below
namespace Go.Proofs.Qxb6602234a
open Go.RowKit Plain

theorem ret_bool {a b : Bool} (h : a = b) : Ending.returned (.bool a) = .returned (.bool b) := by rw [h]
theorem ret_int {a b : Int} (h : a = b) : Ending.returned (.int .i64 a) = .returned (.int .i64 b) := by rw [h]

theorem take_snoc (s : ByteArray) (k : Nat) (h : k < s.size) : s.data.toList.take (k + 1) = s.data.toList.take k ++ [s[k]] := by
  rw [List.take_succ_eq_append_getElem (by simpa using h)]; rfl

theorem u8_ne (c : UInt8) (h : ¬ c = 10) : ((c.toNat : Int) == 10) = false := by
  have h2 : ¬ (c.toNat : Int) = 10 := fun e => h (UInt8.toNat_inj.1 (show c.toNat = 10 from by omega))
  simpa using h2

set_option maxHeartbeats 400000 in
theorem nl_any (s : ByteArray) (w : World) (hs : s.size ≤ maxLen) :
    Calls Try.prog 9 #[.string s] w fun e w' => e = .returned (.int .i64 (nl s.data.toList : Nat)) ∧ w = w' := by
  unfold maxLen at hs
  go_enter Try.func9, Try.ntmps9
  go_wp2
  go_loop [3, 4] (fun n i => ∃ k : Nat, k ≤ s.size ∧ i = .int .i64 k ∧ n = .int .i64 (nl (s.data.toList.take k) : Nat)) (fun _ i => s.size - (intOf i).toNat)
  case atStart => exact ⟨0, Nat.zero_le _, rfl, rfl⟩
  case round =>
    obtain ⟨k, hk, rfl, rfl⟩ := hrel
    have hd := nl_le (s.data.toList.take k)
    have hl : (s.data.toList.take k).length ≤ k := List.length_take_le _ _
    by_cases hlt : k < s.size
    · have hlz : (k : Int) < (s.size : Int) := by omega
      have hsn := nl_snoc (s.data.toList.take k) s[k]
      have hts := take_snoc s k hlt
      have HS : Hid (nl (s.data.toList.take (k + 1)) = nl (s.data.toList.take k) + if s[k] = 10 then 1 else 0) := by rw [hts]; exact hsn
      clear hsn hts
      by_cases h10 : s[k] = 10
      · have ht : ((s[k].toNat : Int) == 10) = true := by rw [h10]; rfl
        have HR : Hid (nl (s.data.toList.take (k + 1)) = nl (s.data.toList.take k) + 1) := by rw [HS.out, if_pos h10]; exact rfl
        clear h10
        go_wp2
        go_round
        case rel => exact ⟨k + 1, by omega, by go_num, by rw [HR.out]; go_num⟩
        case measure => simp [intOf]; omega
      · have ht : ((s[k].toNat : Int) == 10) = false := u8_ne s[k] h10
        have HR : Hid (nl (s.data.toList.take (k + 1)) = nl (s.data.toList.take k)) := by rw [HS.out, if_neg h10]; exact rfl
        clear h10
        go_wp2
        go_round
        case rel => exact ⟨k + 1, by omega, by go_num, by rw [HR.out]⟩
        case measure => simp [intOf]; omega
    · have hlz : ¬ (k : Int) < (s.size : Int) := by omega
      go_wp2
      go_ret
      exact ⟨ret_int (by rw [List.take_of_length_le (by simp; omega)]), rfl⟩

/-- A slice of errors that came in: nil; or three strings an element. -/
def View3 (w : World) (a : Option Addr) (n c : Nat) (C N M : Nat → ByteArray) : Prop :=
  (a = none ∧ n = 0 ∧ c = 0) ∨ ∃ x b o, a = some x ∧ (0 < n → x = ⟨b, o, none⟩) ∧ ∀ i, i < n →
    w.cell? ⟨b, o + i * 3, none⟩ = some (.string (C i)) ∧ w.cell? ⟨b, o + i * 3 + 1, none⟩ = some (.string (N i)) ∧ w.cell? ⟨b, o + i * 3 + 2, none⟩ = some (.string (M i))

def Small (n : Nat) (C N M : Nat → ByteArray) : Prop := ∀ i, i < n → (C i).size ≤ maxLen ∧ (N i).size ≤ maxLen ∧ (M i).size ≤ maxLen

/-- The bytes of one error's fields. -/
def wt (C N M : Nat → ByteArray) (i : Nat) : Nat := (C i).size + (N i).size + (M i).size

set_option maxHeartbeats 1000000 in
theorem bytes_any (a : Option Addr) (n c : Nat) (C N M : Nat → ByteArray) (w : World) (hn : n ≤ maxLen) (hS : Small n C N M) (hv : View3 w a n c C N M) :
    Calls Try.prog 4 #[.slice a n c] w fun r w' => (r = .returned (.bool true) ∨ r = .returned (.bool false)) ∧ w = w' := by
  unfold maxLen at hn
  unfold Small maxLen at hS
  by_cases g : (1048576 : Int) < n
  · go_enter Try.func4, Try.ntmps4
    go_wp2
    go_ret
    exact ⟨.inr rfl, rfl⟩
  · go_enter Try.func4, Try.ntmps4
    go_wp2
    go_loop [3, 4] (fun t i => ∃ (k : Nat) (z : Int), k ≤ n ∧ i = .int .i64 k ∧ t = .int .i64 z ∧ 0 ≤ z ∧ z ≤ 1048576) (fun _ i => n - (intOf i).toNat)
    case atStart => exact ⟨0, n, Nat.zero_le _, rfl, rfl, by omega, by omega⟩
    case round =>
      obtain ⟨k, z, hk, rfl, rfl, hz0, hz1⟩ := hrel
      by_cases hlt : k < n
      · have hkz : (k : Int) < (n : Int) := by omega
        rcases hv with ⟨_, h0, _⟩ | ⟨x, b, o, rfl, ha, hc⟩
        · exact absurd hlt (by omega)
        · obtain rfl := ha (by omega)
          obtain ⟨c0, c1, c2⟩ := hc k hlt
          obtain ⟨s0, s1, s2⟩ := hS k hlt
          clear hc ha hS
          go_wp2
          all_goals first | (go_ret; exact ⟨.inr rfl, rfl⟩) | skip
          go_round
          case rel => exact ⟨k + 1, _, by omega, by go_num, rfl, by omega, by omega⟩
          case measure => simp [intOf]; omega
      · have hkz : ¬ (k : Int) < (n : Int) := by omega
        go_wp2
        go_ret
        exact ⟨.inl rfl, rfl⟩
end Go.Proofs.Qxb6602234a
