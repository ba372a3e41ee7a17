import Derived.Test.Qxb6602234aRows
import Derived.Test.Qxb6602234aWalkF
import Derived.Test.Qxb6602234aWalkL
import Derived.WalkKit
import Derived.WalkSpells
import Derived.Below
import Derived.WalkSmall
import Derived.Deep.QuietTactic
import Derived.BigQuiet
namespace Go.Proofs.Qxb6602234a
open Go.RowKit Plain

theorem nl_same (s : ByteArray) (w : World) (hs : s.size ≤ maxLen) : Calls Try.prog 9 #[.string s] w fun e w' => e = .returned (.int .i64 (nl s.data.toList : Nat)) ∧ w' = w :=
  (nl_any s w hs).mono fun _ _ ⟨h1, h2⟩ => ⟨h1, h2.symm⟩

/-- The line breaks in one error's fields. -/
def nls (C N M : Nat → ByteArray) (i : Nat) : Nat := nl (C i).data.toList + nl (N i).data.toList + nl (M i).data.toList

theorem nls_le (C N M : Nat → ByteArray) (n : Nat) : sum (nls C N M) n ≤ sum (wt C N M) n := by
  have := sum_le (c := 0) (f := nls C N M) (g := wt C N M) n (fun i _ => by
    have h1 := nl_le (C i).data.toList
    have h2 := nl_le (N i).data.toList
    have h3 := nl_le (M i).data.toList
    simp only [size_bytes] at h1 h2 h3
    unfold nls wt
    omega)
  simpa using this

theorem nl_all (C N M : Nat → ByteArray) (n : Nat) : nl (Lib.join ((List.range n).map (tx C N M)) [10]) = sum (nls C N M) n + (n - 1) := by
  rw [nl_join]
  congr 1
  exact sum_congr n (fun i _ => nl_text _ _ _)

set_option maxRecDepth 100000 in
set_option maxHeartbeats 3200000 in
theorem walk_all (a : Option Addr) (n c : Nat) (C N M : Nat → ByteArray) (w : World) (hn : n ≤ maxLen) (hS : Small n C N M) (hv : View3 w a n c C N M) :
    Calls Try.prog 3 #[.slice a n c] w fun e w' => e = .returned (.bool true) ∧ Below w.heap.size w w' := by
  go_enter Try.func3, Try.ntmps3
  go_wp2_with fail
  refine (bytes_any a n c C N M w hn hS hv).mono ?_
  rintro e w' ⟨hB, rfl⟩
  rcases hB.symm with rfl | rfl
  · go_wp2
    go_ret
    exact ⟨rfl, Below.refl _ _⟩
  go_wp2_with fail
  refine (fit_any a n c C N M w hn hS hv).mono ?_
  rintro e w' ⟨hB, rfl⟩
  rcases hB with rfl | ⟨rfl, hn2, hw⟩
  · go_wp2
    go_ret
    exact ⟨rfl, Below.refl _ _⟩
  have HW : Hid (48 * n + sum (wt C N M) n ≤ 1048576) := hw
  clear hw hn
  go_wp2_with fail
  refine (clone_any a n c C N M w hn2 hv).mono ?_
  rintro e w1 ⟨ra, rfl, hO, hb1⟩
  clear hv
  go_wp2_with fail
  refine (make_any ra n n C N M w1 hn2 hO).mono ?_
  rintro e w2 ⟨rfl, hM⟩
  have hO2 : OwnE w2 ra n C N M := by obtain ⟨g, h⟩ := hO; exact ⟨g, h.below hM.below⟩
  have hb2 := hM.below
  go_wp2_with fail
  refine (zzlines_any w1.heap.size n n C N M w2 hn2 HW.out hM.ptrs).mono ?_
  rintro e w3 ⟨rfl, hb3⟩
  obtain ⟨g, hO3⟩ : OwnE w3 ra n C N M := by obtain ⟨g, h⟩ := hO2; exact ⟨g, h.below hb3⟩
  have HB : Hid (Below w.heap.size w w3) := (hb1.trans (hb2.mono hb1.size)).trans (hb3.mono (Nat.le_trans hb1.size hb2.size))
  clear hO hM hO2 hb1 hb2 hb3
  have HJL := join_len C N M n HW.out
  have HNL := nl_all C N M n
  obtain ⟨out, hout⟩ : ∃ out : ByteArray, out = ⟨(Lib.join ((List.range n).map (tx C N M)) [10]).toArray⟩ := ⟨_, rfl⟩
  rw [← hout]
  have hos : out.size ≤ 2097152 := by rw [hout, ← size_bytes]; exact HJL
  have HN : Hid (nl out.data.toList = sum (nls C N M) n + (n - 1)) := by rw [hout]; exact HNL
  clear hout HJL HNL
  have hsum := Nat.le_trans (nls_le C N M n) (show sum (wt C N M) n ≤ 1048576 by have := HW.out; omega)
  by_cases h0 : n = 0
  · subst h0
    go_wp2
    refine wp_loop_rounds 1 ?_; rw [rounds_succ]
    go_wp2_with (go_at_call 9; refine (nl_any out _ (by unfold maxLen; omega)).mono ?_; rintro e w' ⟨rfl, rfl⟩)
    go_ret
    exact ⟨ret_bool (by rw [HN.out]; rfl), HB.out⟩
  · have h0z : (0 : Int) < (n : Int) := by omega
    go_wp2
    go_loopw [5, 6] (fun t i wr => ∃ k q : Nat, k ≤ n ∧ i = .int .i64 k ∧ t = .int .i64 ((n : Int) - 1 + (sum (nls C N M) k : Nat)) ∧ wr = w3.drewN q) (fun _ i _ => n - (intOf i).toNat)
    case atStart => exact ⟨0, 0, Nat.zero_le _, rfl, by simp [sum], rfl⟩
    case round =>
      obtain ⟨k, q, hk, rfl, rfl, hwr⟩ := hrel
      have HQ : Hid (wr = w3.drewN q) := hwr
      clear hwr
      by_cases hlt : k < n
      · have hz : (k : Int) < (n : Int) := by omega
        obtain rfl := hO3.1 (by omega)
        obtain ⟨c0', c1', c2'⟩ := hO3.2 k hlt
        have c0 : wr.cell? ⟨g, k * 3, none⟩ = some (.string (C k)) := by rw [HQ.out]; exact c0'
        have c1 : wr.cell? ⟨g, k * 3 + 1, none⟩ = some (.string (N k)) := by rw [HQ.out]; exact c1'
        have c2 : wr.cell? ⟨g, k * 3 + 2, none⟩ = some (.string (M k)) := by rw [HQ.out]; exact c2'
        clear c0' c1' c2'
        obtain ⟨s0, s1, s2⟩ := hS k hlt
        have hmono := sum_mono (nls C N M) (show k + 1 ≤ n from hlt)
        have HSU : Hid (sum (nls C N M) (k + 1) = sum (nls C N M) k + (nl (C k).data.toList + nl (N k).data.toList + nl (M k).data.toList)) := sum_succ _ _
        have b1 : sum (nls C N M) k + (nl (C k).data.toList + nl (N k).data.toList + nl (M k).data.toList) ≤ 1048576 := by rw [← HSU.out]; omega
        clear hmono
        go_wp2
        go_quiet ((go_at_call 9; exact Calls.quiet_of_same (nl_same _ _ (by assumption))))
        go_wp2
        go_roundw
        case rel => exact ⟨k + 1, q + nq, by omega, by go_num, by rw [HSU.out]; go_num, by rw [HQ.out, World.drewN_drewN]⟩
        case measure => simp [intOf]; omega
      · have hz : ¬ (k : Int) < (n : Int) := by omega
        obtain rfl : k = n := by omega
        go_wp2_with (go_at_call 9; refine (nl_any out _ (by unfold maxLen; omega)).mono ?_; rintro e w' ⟨rfl, rfl⟩)
        go_ret
        exact ⟨ret_bool (by have := HN.out; simp; omega), by rw [HQ.out]; exact below_drewN HB.out q⟩
end Go.Proofs.Qxb6602234a
