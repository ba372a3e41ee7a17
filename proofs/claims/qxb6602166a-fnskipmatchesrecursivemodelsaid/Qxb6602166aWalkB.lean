import Derived.Test.Qxb6602166aRows
import Derived.Test.Qxb6602166aPlain
import Derived.WalkKit
import Derived.Below
namespace Go.Proofs.Qxb6602166a
open Go.RowKit Plain

theorem ret_bool {a b : Bool} (h : a = b) : Ending.returned (.bool a) = .returned (.bool b) := by rw [h]
theorem ret_end {a b : Int} {c d : Bool} (h : a = b) (k : c = d) : Ending.returned (.tuple #[.int .i64 a, .bool c, .bool true]) = .returned (.tuple #[.int .i64 b, .bool d, .bool true]) := by rw [h, k]

set_option maxHeartbeats 400000 in
theorem bytes6_yes (a : Option Addr) (n c : Nat) (e : Int) (w : World) (hn : n ≤ 1048576) :
    Calls Try.prog 6 #[.slice a n c, .int .i64 e] w fun r w' => r = .returned (.bool true) ∧ w = w' := by
  have h1 : (n : Int) ≤ 1048576 := by omega
  go_enter Try.func6, Try.ntmps6
  go_wp2
  go_ret
  exact ⟨rfl, rfl⟩

set_option maxHeartbeats 400000 in
theorem bytes6_no (a : Option Addr) (n c : Nat) (e : Int) (w : World) (hn : ¬ n ≤ 1048576) :
    Calls Try.prog 6 #[.slice a n c, .int .i64 e] w fun r w' => r = .returned (.bool false) ∧ w = w' := by
  have h1 : (1048576 : Int) < (n : Int) := by omega
  go_enter Try.func6, Try.ntmps6
  go_wp2
  go_ret
  exact ⟨rfl, rfl⟩

set_option maxHeartbeats 400000 in
theorem bytes12_yes (a : Option Addr) (n c : Nat) (e : Int) (w : World) (hn : n ≤ 1048576) :
    Calls Try.prog 12 #[.slice a n c, .int .i64 e] w fun r w' => r = .returned (.bool true) ∧ w = w' := by
  have h1 : (n : Int) ≤ 1048576 := by omega
  go_enter Try.func12, Try.ntmps12
  go_wp2
  go_ret
  exact ⟨rfl, rfl⟩

set_option maxHeartbeats 400000 in
theorem bytes12_no (a : Option Addr) (n c : Nat) (e : Int) (w : World) (hn : ¬ n ≤ 1048576) :
    Calls Try.prog 12 #[.slice a n c, .int .i64 e] w fun r w' => r = .returned (.bool false) ∧ w = w' := by
  have h1 : (1048576 : Int) < (n : Int) := by omega
  go_enter Try.func12, Try.ntmps12
  go_wp2
  go_ret
  exact ⟨rfl, rfl⟩

/-- What mStringEnd answers. -/
def EndIs (f : Nat → Int) (n p : Nat) (r : Ending) : Prop :=
  r = .returned (.tuple #[.int .i64 0, .bool false, .bool false]) ∨ ∃ D, StrEnd f n p D ∧ r = .returned (.tuple #[.int .i64 ((p : Int) + 1 + D + 1), .bool (anyB f p D), .bool true])

set_option maxHeartbeats 1000000 in
theorem mend_any (b o n c p : Nat) (f : Nat → Int) (w : World) (hn : n ≤ 1048576) (hp : p < n)
    (hc : ∀ i, i < n → w.cell? ⟨b, o + i, none⟩ = some (.int .u8 (f i))) :
    Calls Try.prog 7 #[.slice (some ⟨b, o, none⟩) n c, .int .i64 p] w fun r w' => EndIs f n p r ∧ w = w' := by
  go_enter Try.func7, Try.ntmps7
  go_wp2
  go_loop [7, 8] (fun e j => ∃ d : Nat, p + 1 + d ≤ n ∧ j = .int .i64 ((p : Int) + 1 + d) ∧ e = .bool (anyB f p d) ∧ NoEnd f p d) (fun _ j => n - (intOf j).toNat)
  case atStart => exact ⟨0, by omega, by go_num, rfl, NoEnd.zero f p⟩
  case round =>
    obtain ⟨d, hd, rfl, rfl, hno⟩ := hrel
    have HN : Hid (NoEnd f p d) := hno
    clear hno
    by_cases hlt : p + 1 + d < n
    · have hz : (p : Int) + 1 + d < (n : Int) := by omega
      have hcell := hc (p + 1 + d) hlt
      have e1 : ((p : Int) + 1 + (d : Int)).toNat = p + 1 + d := by omega
      by_cases h92 : f (p + 1 + d) = 92
      · have ht : (f (p + 1 + d) == 92) = true := by simpa using h92
        have hne : ¬ IsEnd f p d := fun h => by have h1 := h.1; rw [h92] at h1; exact absurd h1 (by decide)
        have R : Hid (NoEnd f p (d + 1) ∧ anyB f p (d + 1) = true) := ⟨HN.out.succ hne, any_hit h92⟩
        clear hne h92
        go_wp2
        go_round
        case rel => exact ⟨d + 1, by omega, by go_num, by rw [R.out.2], R.out.1⟩
        case measure => simp [intOf]; omega
      · have ht : (f (p + 1 + d) == 92) = false := by simpa using h92
        have A1 : Hid (anyB f p (d + 1) = anyB f p d) := any_plain h92
        by_cases h34 : f (p + 1 + d) = 34
        · have hq : (f (p + 1 + d) == 34) = true := by simpa using h34
          have H34 : Hid (f (p + 1 + d) = 34) := h34
          clear h34 h92
          go_wp2
          go_loop [9, 10] (fun rn i => ∃ r : Nat, r ≤ d ∧ rn = .int .i64 r ∧ i = .int .i64 ((p : Int) + d - r) ∧ ∀ t, d - r ≤ t → t < d → f (p + 1 + t) = 92) (fun rn _ => d - (intOf rn).toNat)
          case atStart => exact ⟨0, Nat.zero_le _, rfl, by go_num, fun t h1 h2 => absurd h1 (by omega)⟩
          case round =>
            obtain ⟨r, hr, rfl, rfl, hall⟩ := hrel
            have HA : Hid (∀ t, d - r ≤ t → t < d → f (p + 1 + t) = 92) := hall
            clear hall
            by_cases hrd : r < d ∧ f (p + 1 + (d - r - 1)) = 92
            · obtain ⟨hrd, hb⟩ := hrd
              have hz1 : (p : Int) < (p : Int) + d - r := by omega
              have hz2 : (p : Int) + d - r < (n : Int) := by omega
              have hcell2 := hc (p + 1 + (d - r - 1)) (by omega)
              have e2 : ((p : Int) + (d : Int) - (r : Int)).toNat = p + 1 + (d - r - 1) := by omega
              have ht2 : (f (p + 1 + (d - r - 1)) == 92) = true := by simpa using hb
              go_wp2
              go_round
              case rel => exact ⟨r + 1, by omega, by go_num, by go_num, fun t h1 h2 => by
                            by_cases e : t = d - r - 1
                            · rw [e]; exact hb
                            · exact HA.out t (by omega) h2⟩
              case measure => simp [intOf]; omega
            · have hes : esc f p d = decide (r % 2 = 1) := esc_back f p d r hr HA.out (fun h e => hrd ⟨h, e⟩)
              have HE : Hid (esc f p d = decide (r % 2 = 1)) := hes
              clear hes
              by_cases hev : r % 2 = 1
              · have hev2 : ((r : Int) % 2 == 0) = false := by
                  have : (r : Int) % 2 ≠ 0 := by omega
                  simpa using this
                have R : Hid (NoEnd f p (d + 1)) := HN.out.succ (fun h => by have h2 := h.2; rw [HE.out] at h2; simp [hev] at h2)
                clear hev
                by_cases hrd2 : r < d
                · have hb : f (p + 1 + (d - r - 1)) ≠ 92 := fun e => hrd ⟨hrd2, e⟩
                  have hz1 : (p : Int) < (p : Int) + d - r := by omega
                  have hz2 : (p : Int) + d - r < (n : Int) := by omega
                  have hcell2 := hc (p + 1 + (d - r - 1)) (by omega)
                  have e2 : ((p : Int) + (d : Int) - (r : Int)).toNat = p + 1 + (d - r - 1) := by omega
                  have ht2 : (f (p + 1 + (d - r - 1)) == 92) = false := by simpa using hb
                  clear hrd hb
                  go_wp2
                  go_round
                  case rel => exact ⟨d + 1, by omega, by go_num, by rw [A1.out], R.out⟩
                  case measure => simp [intOf]; omega
                · have hz1 : ¬ (p : Int) < (p : Int) + d - r := by omega
                  clear hrd
                  go_wp2
                  go_round
                  case rel => exact ⟨d + 1, by omega, by go_num, by rw [A1.out], R.out⟩
                  case measure => simp [intOf]; omega
              · have hev2 : ((r : Int) % 2 == 0) = true := by
                  have : (r : Int) % 2 = 0 := by omega
                  simpa using this
                have R : Hid (StrEnd f n p d) := ⟨hlt, ⟨H34.out, by rw [HE.out]; simp [hev]⟩, HN.out⟩
                clear hev
                by_cases hrd2 : r < d
                · have hb : f (p + 1 + (d - r - 1)) ≠ 92 := fun e => hrd ⟨hrd2, e⟩
                  have hz1 : (p : Int) < (p : Int) + d - r := by omega
                  have hz2 : (p : Int) + d - r < (n : Int) := by omega
                  have hcell2 := hc (p + 1 + (d - r - 1)) (by omega)
                  have e2 : ((p : Int) + (d : Int) - (r : Int)).toNat = p + 1 + (d - r - 1) := by omega
                  have ht2 : (f (p + 1 + (d - r - 1)) == 92) = false := by simpa using hb
                  clear hrd hb
                  go_wp2
                  go_ret3
                  exact ⟨.inr ⟨d, R.out, rfl⟩, rfl⟩
                · have hz1 : ¬ (p : Int) < (p : Int) + d - r := by omega
                  clear hrd
                  go_wp2
                  go_ret3
                  exact ⟨.inr ⟨d, R.out, rfl⟩, rfl⟩
        · have hq : (f (p + 1 + d) == 34) = false := by simpa using h34
          have hne : ¬ IsEnd f p d := fun h => h34 h.1
          have R : Hid (NoEnd f p (d + 1)) := HN.out.succ hne
          clear hne h34 h92
          go_wp2
          go_round
          case rel => exact ⟨d + 1, by omega, by go_num, by rw [A1.out], R.out⟩
          case measure => simp [intOf]; omega
    · have hz : ¬ (p : Int) + 1 + d < (n : Int) := by omega
      go_wp2
      go_ret3
      exact ⟨.inl rfl, rfl⟩
end Go.Proofs.Qxb6602166a
