import Derived.Test.Qxb6602126aRows
import Derived.Test.Qxb6602126aPlain
import Derived.WalkKit
import Derived.Below
import Derived.Deep.OwnRows
namespace Go.Proofs.Qxb6602126a
open Go.RowKit Plain

theorem ret_bool {a b : Bool} (h : a = b) : Ending.returned (.bool a) = .returned (.bool b) := by rw [h]

set_option maxHeartbeats 400000 in
theorem bytes_yes (a : Option Addr) (n c : Nat) (e : Int) (bf : Bool) (w : World) (hn : n ≤ 1048576) :
    Calls Try.prog 9 #[.slice a n c, .int .i64 e, .bool bf] w fun r w' => r = .returned (.bool true) ∧ w = w' := by
  have h1 : (n : Int) ≤ 1048576 := by omega
  go_enter Try.func9, Try.ntmps9
  go_wp2
  go_ret
  exact ⟨rfl, rfl⟩

set_option maxHeartbeats 400000 in
theorem bytes_no (a : Option Addr) (n c : Nat) (e : Int) (bf : Bool) (w : World) (hn : ¬ n ≤ 1048576) :
    Calls Try.prog 9 #[.slice a n c, .int .i64 e, .bool bf] w fun r w' => r = .returned (.bool false) ∧ w = w' := by
  have h1 : (1048576 : Int) < (n : Int) := by omega
  go_enter Try.func9, Try.ntmps9
  go_wp2
  go_ret
  exact ⟨rfl, rfl⟩

set_option maxHeartbeats 400000 in
theorem fwd_any (a : Option Addr) (b n c e : Nat) (f : Nat → Int) (bf : Bool) (w : World) (hn : n ≤ 1048576) (he : e ≤ n) (ha : 0 < e → a = some ⟨b, 0, none⟩)
    (hc : ∀ i, i < e → w.cell? ⟨b, i, none⟩ = some (.int .u8 (f i))) :
    Calls Try.prog 12 #[.slice a n c, .int .i64 e, .bool bf] w fun r w' => r = .returned (.bool (fwd f bf e)) ∧ w = w' := by
  go_enter Try.func12, Try.ntmps12
  go_wp2
  go_loop [7, 8] (fun p i => ∃ k : Nat, k ≤ e ∧ i = .int .i64 k ∧ p = .bool (fwd f bf k)) (fun _ i => e - (intOf i).toNat)
  case atStart => exact ⟨0, Nat.zero_le _, rfl, rfl⟩
  case round =>
    obtain ⟨k, hk, rfl, rfl⟩ := hrel
    by_cases hlt : k < e
    · obtain rfl := ha (by omega)
      have hcell := hc k hlt
      have hz : (k : Int) < (e : Int) := by omega
      have hzn : (k : Int) < (n : Int) := by omega
      have hs := fwd_step f bf k
      by_cases h92 : f k = 92
      · have ht : (f k == 92) = true := by simpa using h92
        have HS : Hid (fwd f bf (k + 1) = !(fwd f bf k)) := by rw [hs, if_pos h92]; exact rfl
        clear hs h92
        go_wp2
        go_round
        case rel => exact ⟨k + 1, by omega, by go_num, by rw [HS.out]⟩
        case measure => simp [intOf]; omega
      · have ht : (f k == 92) = false := by simpa using h92
        have HS : Hid (fwd f bf (k + 1) = false) := by rw [hs, if_neg h92]; exact rfl
        clear hs h92
        go_wp2
        go_round
        case rel => exact ⟨k + 1, by omega, by go_num, by rw [HS.out]⟩
        case measure => simp [intOf]; omega
    · have hz : ¬ (k : Int) < (e : Int) := by omega
      go_wp2
      go_ret
      exact ⟨ret_bool (by rw [show k = e from by omega]), rfl⟩

theorem odd_zero (e : Nat) (bf : Bool) : (!((e : Int) % 2 == 1) == bf) = back e 0 bf := by
  unfold back
  rw [if_pos rfl]
  by_cases h : e % 2 = 1
  · have : (e : Int) % 2 = 1 := by omega
    simp [h, this]
  · have t : ((e : Int) % 2 == 1) = false := by
      have : (e : Int) % 2 ≠ 1 := by omega
      simpa using this
    rw [t]
    simp [h]

theorem odd_some (e m : Nat) (bf : Bool) (hk : m + 1 ≤ e) : (((e : Int) - ((m : Int) + 1)) % 2 == 1) = back e (m + 1) bf := by
  unfold back
  rw [if_neg (by omega)]
  by_cases h : (e - (m + 1)) % 2 = 1
  · have : ((e : Int) - ((m : Int) + 1)) % 2 = 1 := by omega
    simp [h, this]
  · have : ((e : Int) - ((m : Int) + 1)) % 2 ≠ 1 := by omega
    simp [h, this]

set_option maxHeartbeats 400000 in
theorem odd_any (a : Option Addr) (b n c e : Nat) (f : Nat → Int) (bf : Bool) (w : World) (hn : n ≤ 1048576) (he : e ≤ n) (ha : 0 < e → a = some ⟨b, 0, none⟩)
    (hc : ∀ i, i < e → w.cell? ⟨b, i, none⟩ = some (.int .u8 (f i))) :
    Calls Try.prog 25 #[.slice a n c, .int .i64 e, .bool bf] w fun r w' => r = .returned (.bool (fwd f bf e)) ∧ w = w' := by
  go_enter Try.func25, Try.ntmps25
  go_wp2
  go_loop [7] (fun s => ∃ k : Nat, k ≤ e ∧ s = .int .i64 k ∧ ∀ i, k ≤ i → i < e → f i = 92) (fun s => (intOf s).toNat)
  case atStart => exact ⟨e, Nat.le_refl _, rfl, fun i h1 h2 => absurd h1 (by omega)⟩
  case round =>
    obtain ⟨k, hk, rfl, hall⟩ := hrel
    have HA : Hid (∀ i, k ≤ i → i < e → f i = 92) := hall
    clear hall
    by_cases h0 : k = 0
    · have hb := back_eq f bf e k hk HA.out (fun h => absurd h (by omega))
      subst h0
      have HB : Hid (back e 0 bf = fwd f bf e) := hb
      clear hb
      go_wp2
      go_ret
      exact ⟨ret_bool (by rw [← HB.out]; exact odd_zero e bf), rfl⟩
    · obtain ⟨m, rfl⟩ : ∃ m, k = m + 1 := ⟨k - 1, by omega⟩
      obtain rfl := ha (by omega)
      have hcell := hc m (by omega)
      have hz : (m : Int) < (n : Int) := by omega
      by_cases h92 : f m = 92
      · have ht : (f m == 92) = true := by simpa using h92
        go_wp2
        go_round
        case rel => exact ⟨m, by omega, by go_num, fun i h1 h2 => by
                      by_cases e : i = m
                      · rw [e]; exact h92
                      · exact HA.out i (by omega) h2⟩
        case measure => simp [intOf]
      · have ht : (f m == 92) = false := by simpa using h92
        have HB : Hid (back e (m + 1) bf = fwd f bf e) := back_eq f bf e (m + 1) hk HA.out (fun _ => by simpa using h92)
        go_wp2
        go_ret
        exact ⟨ret_bool (by rw [← HB.out]; exact odd_some e m bf hk), rfl⟩
end Go.Proofs.Qxb6602126a
