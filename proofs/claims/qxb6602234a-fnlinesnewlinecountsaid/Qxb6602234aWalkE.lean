import Derived.Test.Qxb6602234aRows
import Derived.Test.Qxb6602234aWalkM
import Derived.WalkKit
import Derived.WalkSpells
import Derived.WalkLawsBesides
import Derived.Below
import Derived.WalkSmall
import Derived.Deep.QuietTactic
import Derived.BigQuiet
namespace Go.Proofs.Qxb6602234a
open Go.RowKit Plain

theorem ret_str {a b : ByteArray} (h : a = b) : Ending.returned (.string a) = .returned (.string b) := by rw [h]

theorem text_no (C N M : ByteArray) (h : N.toList.isEmpty = true) : C ++ ⟨#[58, 32]⟩ ++ M = (⟨(text C.data.toList N.data.toList M.data.toList).toArray⟩ : ByteArray) := by
  have hN : N.data.toList = [] := by rw [← ByteArray.toList_eq]; simpa using h
  apply ByteArray.ext
  apply Array.toList_inj.1
  rw [text, if_pos hN]
  simp [ByteArray.data_append]

theorem text_yes (C N M : ByteArray) (h : N.toList.isEmpty = false) : C ++ ⟨#[32, 110, 111, 100, 101, 61]⟩ ++ N ++ ⟨#[58, 32]⟩ ++ M = (⟨(text C.data.toList N.data.toList M.data.toList).toArray⟩ : ByteArray) := by
  have hN : ¬ N.data.toList = [] := fun e => by rw [ByteArray.toList_eq, e] at h; simp at h
  apply ByteArray.ext
  apply Array.toList_inj.1
  rw [text, if_neg hN]
  simp [ByteArray.data_append]

set_option maxHeartbeats 1000000 in
theorem error_any (b : Nat) (C N M : ByteArray) (w : World) (hb : w.heap[b]? = some (.cells #[.string C, .string N, .string M] 32 (0, 0))) (hs : C.size + N.size + M.size ≤ 1048576) :
    Calls Try.prog 11 #[.pointer (some ⟨b, 0, none⟩)] w fun r w' => r = .returned (.string ⟨(text C.data.toList N.data.toList M.data.toList).toArray⟩) ∧ ∃ k, w' = w.drewN k := by
  have c0 : w.cell? ⟨b, 0, none⟩ = some (.string C) := by rw [cell_of_row w _ _ _ _ _ hb]; rfl
  have c1 : w.cell? ⟨b, 1, none⟩ = some (.string N) := by rw [cell_of_row w _ _ _ _ _ hb]; rfl
  have c2 : w.cell? ⟨b, 2, none⟩ = some (.string M) := by rw [cell_of_row w _ _ _ _ _ hb]; rfl
  clear hb
  have hz0 : (C.size : Int) ≤ 1048576 := by omega
  have hz1 : (N.size : Int) ≤ 1048576 := by omega
  have hz2 : (M.size : Int) ≤ 1048576 := by omega
  by_cases hN : N.toList.isEmpty = true
  · go_enter Try.func11, Try.ntmps11
    go_wp2
    go_quiet (fail)
    go_wp2
    go_ret
    exact ⟨ret_str (text_no C N M hN), nq, rfl⟩
  · have hN' : N.toList.isEmpty = false := by simpa using hN
    clear hN
    go_enter Try.func11, Try.ntmps11
    go_wp2
    go_quiet (fail)
    go_wp2
    go_ret
    exact ⟨ret_str (text_yes C N M hN'), nq, rfl⟩
end Go.Proofs.Qxb6602234a
