import Derived.Test.Qxb6602208aRows
import Derived.Test.Qxb6602208aWalkG
import Derived.WalkKit
import Derived.WalkSpells
import Derived.Below
namespace Go.Proofs.Qxb6602208a
open Go.RowKit

/-- The guard on sizes: whatever it answers, where it says no the lengths are small. -/
def BigIs (n1 n3 n4 : Nat) (r : Ending) : Prop := r = .returned (.bool true) ∨ (r = .returned (.bool false) ∧ n1 ≤ 65536 ∧ n3 ≤ 65536 ∧ n4 ≤ 65536)

set_option maxHeartbeats 1000000 in
theorem big_any (a1 a3 a4 : Option Addr) (n1 c1 n3 c3 n4 c4 : Nat) (m : Option Nat) (ml : Nat) (S : Nat → ByteArray) (w : World)
    (h1 : n1 ≤ maxLen) (h3 : n3 ≤ maxLen) (h4 : n4 ≤ maxLen) (hS : ∀ i, i < n4 → (S i).size ≤ maxLen)
    (hv : View w a4 n4 c4 (fun i => .string (S i))) (hlen : ∀ ty, (Builtin.len_ #[38] ty #[.map m]).run Try.prog w = .ok (.int .i64 ml) w) (hml : ml ≤ maxLen) :
    Calls Try.prog 14 #[.slice a1 n1 c1, .slice a3 n3 c3, .slice a4 n4 c4, .map m] w fun r w' => BigIs n1 n3 n4 r ∧ w = w' := by
  unfold maxLen at h1 h3 h4 hS hml
  by_cases g1 : (65536 : Int) < n1
  · go_enter Try.func14, Try.ntmps14
    go_wp2
    go_ret
    exact ⟨.inl rfl, rfl⟩
  · by_cases g3 : (65536 : Int) < n3
    · go_enter Try.func14, Try.ntmps14
      go_wp2
      go_ret
      exact ⟨.inl rfl, rfl⟩
    · by_cases g4 : (65536 : Int) < n4
      · go_enter Try.func14, Try.ntmps14
        go_wp2
        go_ret
        exact ⟨.inl rfl, rfl⟩
      · by_cases gm : (65536 : Int) < ml
        · go_enter Try.func14, Try.ntmps14
          go_wp2
          go_ret
          exact ⟨.inl rfl, rfl⟩
        · by_cases gt : (1048576 : Int) < 8 * (n1 : Int) + 8 * n3 + 16 * ml + 16 * n4
          · go_enter Try.func14, Try.ntmps14
            go_wp2
            go_ret
            exact ⟨.inl rfl, rfl⟩
          · have hend : n1 ≤ 65536 ∧ n3 ≤ 65536 ∧ n4 ≤ 65536 := by omega
            have HE : Hid (n1 ≤ 65536 ∧ n3 ≤ 65536 ∧ n4 ≤ 65536) := hend
            clear hend
            go_enter Try.func14, Try.ntmps14
            go_wp2
            go_loop [9, 10] (fun t i => ∃ (k : Nat) (z : Int), k ≤ n4 ∧ i = .int .i64 k ∧ t = .int .i64 z ∧ 0 ≤ z ∧ z ≤ 1048576) (fun _ i => n4 - (intOf i).toNat)
            case atStart => exact ⟨0, _, Nat.zero_le _, rfl, rfl, by omega, by omega⟩
            case round =>
              obtain ⟨k, z, hk, rfl, rfl, hz0, hz1⟩ := hrel
              clear g1 g3 g4 gm gt hlen
              by_cases hlt : k < n4
              · have hkz : (k : Int) < (n4 : Int) := by omega
                rcases hv with ⟨_, h0, _⟩ | ⟨x, b, o, rfl, ha, hc⟩
                · exact absurd hlt (by omega)
                · obtain rfl := ha (by omega)
                  have hcell := hc k hlt
                  have hsz := hS k hlt
                  by_cases hbig : 1048576 - z < ((S k).size : Int)
                  · go_wp2
                    go_ret
                    exact ⟨.inl rfl, rfl⟩
                  · go_wp2
                    go_round
                    case rel => exact ⟨k + 1, _, by omega, by go_num, rfl, by omega, by omega⟩
                    case measure => simp [intOf]; omega
              · have hkz : ¬ (k : Int) < (n4 : Int) := by omega
                go_wp2
                go_ret
                exact ⟨.inr ⟨rfl, HE.out⟩, rfl⟩

/-- The guard on the ledger's shape. -/
def DomIs (n1 n3 n4 : Nat) (pv : Int) (L : Nat → Int) (r : Ending) : Prop :=
  r = .returned (.bool true) ∨ (r = .returned (.bool false) ∧ pv ≤ 65536 ∧ (pv = 0 ∨ (0 < n1 ∧ n3 ≤ n4 ∧ ∀ p : Nat, p < n1 → (p : Int) < pv → 0 ≤ L p ∧ L p < (n4 : Int))))

set_option maxHeartbeats 1000000 in
theorem dom_any (a1 a3 a4 : Option Addr) (n1 c1 n3 c3 n4 c4 : Nat) (pv : Int) (L : Nat → Int) (w : World) (h1 : n1 ≤ 65536) (_h3 : n3 ≤ 65536) (_h4 : n4 ≤ 65536) (hp : 0 ≤ pv)
    (hv : View w a1 n1 c1 (fun i => .int .i64 (L i))) :
    Calls Try.prog 15 #[.slice a1 n1 c1, .int .u64 pv, .slice a3 n3 c3, .slice a4 n4 c4] w fun r w' => DomIs n1 n3 n4 pv L r ∧ w = w' := by
  by_cases g1 : 65536 < pv
  · go_enter Try.func15, Try.ntmps15
    go_wp2
    go_ret
    exact ⟨.inl rfl, rfl⟩
  · by_cases g2 : pv = 0
    · subst g2
      go_enter Try.func15, Try.ntmps15
      go_wp2
      go_ret
      exact ⟨.inr ⟨rfl, by omega, .inl rfl⟩, rfl⟩
    · have g2b : (pv == 0) = false := by simpa using g2
      by_cases g3 : n1 = 0
      · subst g3
        clear g2
        go_enter Try.func15, Try.ntmps15
        go_wp2
        go_ret
        exact ⟨.inl rfl, rfl⟩
      · have g3b : ((n1 : Int) == 0) = false := by
          have : (n1 : Int) ≠ 0 := by omega
          simpa using this
        by_cases g4 : (n4 : Int) < n3
        · clear g2 g3
          go_enter Try.func15, Try.ntmps15
          go_wp2
          go_ret
          exact ⟨.inl rfl, rfl⟩
        · obtain ⟨pn, rfl⟩ : ∃ pn : Nat, pv = (pn : Int) := ⟨pv.toNat, by omega⟩
          obtain ⟨x, b, o, rfl, ha, hc⟩ : ∃ x b o, a1 = some x ∧ (0 < n1 → x = ⟨b, o, none⟩) ∧ (∀ i, i < n1 → w.cell? ⟨b, o + i, none⟩ = some (.int .i64 (L i))) := by
            rcases hv with ⟨_, h0, _⟩ | h
            · exact absurd h0 g3
            · exact h
          obtain rfl := ha (by omega)
          have HG : Hid (0 < n1 ∧ n3 ≤ n4) := ⟨by omega, by omega⟩
          clear g2 g3 ha hv
          by_cases g5 : (pn : Int) < n1
          · go_enter Try.func15, Try.ntmps15
            go_wp2
            go_loop [10] (fun i => ∃ k : Nat, k ≤ pn ∧ i = .int .i64 k ∧ ∀ p : Nat, p < k → 0 ≤ L p ∧ L p < (n4 : Int)) (fun i => pn - (intOf i).toNat)
            case atStart => exact ⟨0, Nat.zero_le _, rfl, fun p h => absurd h (by omega)⟩
            case round =>
              obtain ⟨k, hk, rfl, hall⟩ := hrel
              have HA : Hid (∀ p : Nat, p < k → 0 ≤ L p ∧ L p < (n4 : Int)) := hall
              clear hall
              by_cases hlt : k < pn
              · have hkz : (k : Int) < (pn : Int) := by omega
                have hkn : (k : Int) < (n1 : Int) := by omega
                have hcell := hc k (by omega)
                by_cases l1 : L k < 0
                · go_wp2
                  go_ret
                  exact ⟨.inl rfl, rfl⟩
                · by_cases l2 : (n4 : Int) ≤ L k
                  · go_wp2
                    go_ret
                    exact ⟨.inl rfl, rfl⟩
                  · go_wp2
                    go_round
                    case rel => exact ⟨k + 1, by omega, by go_num, fun p hpk => by
                                  by_cases e : p = k
                                  · subst e; omega
                                  · exact HA.out p (by omega)⟩
                    case measure => simp [intOf]; omega
              · have hkz : ¬ (k : Int) < (pn : Int) := by omega
                go_wp2
                go_ret
                exact ⟨.inr ⟨rfl, by omega, .inr ⟨HG.out.1, HG.out.2, fun p h1 h2 => HA.out p (by omega)⟩⟩, rfl⟩
          · go_enter Try.func15, Try.ntmps15
            go_wp2
            go_loop [10] (fun i => ∃ k : Nat, k ≤ n1 ∧ i = .int .i64 k ∧ ∀ p : Nat, p < k → 0 ≤ L p ∧ L p < (n4 : Int)) (fun i => n1 - (intOf i).toNat)
            case atStart => exact ⟨0, Nat.zero_le _, rfl, fun p h => absurd h (by omega)⟩
            case round =>
              obtain ⟨k, hk, rfl, hall⟩ := hrel
              have HA : Hid (∀ p : Nat, p < k → 0 ≤ L p ∧ L p < (n4 : Int)) := hall
              clear hall
              by_cases hlt : k < n1
              · have hkz : (k : Int) < (n1 : Int) := by omega
                have hkn : (k : Int) < (n1 : Int) := by omega
                have hcell := hc k (by omega)
                by_cases l1 : L k < 0
                · go_wp2
                  go_ret
                  exact ⟨.inl rfl, rfl⟩
                · by_cases l2 : (n4 : Int) ≤ L k
                  · go_wp2
                    go_ret
                    exact ⟨.inl rfl, rfl⟩
                  · go_wp2
                    go_round
                    case rel => exact ⟨k + 1, by omega, by go_num, fun p hpk => by
                                  by_cases e : p = k
                                  · subst e; omega
                                  · exact HA.out p (by omega)⟩
                    case measure => simp [intOf]; omega
              · have hkz : ¬ (k : Int) < (n1 : Int) := by omega
                go_wp2
                go_ret
                exact ⟨.inr ⟨rfl, by omega, .inr ⟨HG.out.1, HG.out.2, fun p h1 h2 => HA.out p (by omega)⟩⟩, rfl⟩
end Go.Proofs.Qxb6602208a
