import Derived.Test.Qxb6602234aRows
import Derived.Test.Qxb6602234aShelf
import Derived.Test.Qxb6602234aWalkE
import Derived.WalkKit
import Derived.WalkSpells
import Derived.Below
import Derived.WalkSmall
import Derived.Deep.OwnRows
namespace Go.Proofs.Qxb6602234a
open Go.RowKit Plain

theorem Try.info9 : (Try.prog.info? 9).map (fun i => (i.zero, i.size, i.bytes)) = some (some (.string ByteArray.empty), 1, 16) := by kernel_rfl

/-- The text of error i. -/
def tx (C N M : Nat → ByteArray) (i : Nat) : List UInt8 := text (C i).data.toList (N i).data.toList (M i).data.toList
def txs (C N M : Nat → ByteArray) (i : Nat) : ByteArray := ⟨(tx C N M i).toArray⟩

/-- The row of texts, k of them written. -/
structure Tx (w wr : World) (n : Nat) (C N M : Nat → ByteArray) (k : Nat) : Prop where
  below : Below w.heap.size w wr
  row : wr.rowIs w.heap.size 9 n (fun j => if j < k then .string (txs C N M j) else .string ByteArray.empty)

theorem Tx.start (w : World) (n : Nat) (C N M : Nat → ByteArray) : Tx w (w.alloc (.cells (madeCells #[.string ByteArray.empty] n) 9)) n C N M 0 :=
  ⟨(Below.refl _ _).alloc (Nat.le_refl _) _, (World.rowIs_made w _ n 9).congr (fun j _ => by simp)⟩

theorem Tx.step {w wr : World} {n : Nat} {C N M : Nat → ByteArray} {k : Nat} (h : Tx w wr n C N M k) (q : Nat) : Tx w ((wr.drewN q).setCell ⟨w.heap.size, k, none⟩ (.string (txs C N M k))) n C N M (k + 1) := by
  have hr : (wr.drewN q).rowIs w.heap.size 9 n (fun j => if j < k then .string (txs C N M j) else .string ByteArray.empty) := h.row.of_block rfl
  refine ⟨(below_drewN h.below q).setCell (Nat.le_refl _) _, (hr.set k _).congr (fun i _ => ?_)⟩
  by_cases e : i = k
  · subst e; simp
  · rw [if_neg e]
    by_cases hlt : i < k
    · rw [if_pos hlt, if_pos (by omega)]
    · rw [if_neg hlt, if_neg (by omega)]

theorem size_bytes (b : ByteArray) : b.data.toList.length = b.size := by simp

theorem join_len (C N M : Nat → ByteArray) (n : Nat) (hw : 48 * n + sum (wt C N M) n ≤ 1048576) : (Lib.join ((List.range n).map (tx C N M)) [10]).length ≤ 2097152 := by
  have h1 := len_join (tx C N M) n
  have h2 : sum (fun i => (tx C N M i).length) n ≤ sum (wt C N M) n + n * 8 := sum_le n (fun i _ => by
    have := text_le (C i).data.toList (N i).data.toList (M i).data.toList
    simp only [size_bytes] at this
    exact this)
  omega

theorem wt_le (C N M : Nat → ByteArray) (n k : Nat) (hk : k < n) (hw : 48 * n + sum (wt C N M) n ≤ 1048576) : (C k).size + (N k).size + (M k).size ≤ 1048576 := by
  have h1 := sum_mono (wt C N M) (show k + 1 ≤ n from hk)
  rw [sum_succ] at h1
  have h2 : wt C N M k = (C k).size + (N k).size + (M k).size := rfl
  omega

/-- The pointers and the errors that they lead to. -/
def Ptrs (w : World) (g n : Nat) (C N M : Nat → ByteArray) : Prop :=
  (∀ j, j < n → w.cell? ⟨g, j, none⟩ = some (.pointer (some ⟨g + 1 + j, 0, none⟩))) ∧ ∀ j, j < n → w.heap[g + 1 + j]? = some (.cells #[.string (C j), .string (N j), .string (M j)] 32 (0, 0))

theorem Mk.ptrs {w wr : World} {n : Nat} {C N M : Nat → ByteArray} (h : Mk w wr n C N M n) : Ptrs wr w.heap.size n C N M :=
  ⟨fun j hj => by rw [h.row.cell hj, if_pos hj], h.obj⟩

set_option maxHeartbeats 1000000 in
theorem lines_any (g n c : Nat) (C N M : Nat → ByteArray) (w : World) (hn : n ≤ 4096) (hw : 48 * n + sum (wt C N M) n ≤ 1048576) (hp : Ptrs w g n C N M) :
    Calls Try.prog 10 #[.slice (some ⟨g, 0, none⟩) n c] w fun r w' => r = .returned (.string ⟨(Lib.join ((List.range n).map (tx C N M)) [10]).toArray⟩) ∧ Below w.heap.size w w' := by
  have hmk := run_make_row' (P := Try.prog) 33 9 (.string ByteArray.empty) 16 Try.underlying33 Try.info9 rfl .i64 .i64 n (by omega) (by omega)
  have HW : Hid (48 * n + sum (wt C N M) n ≤ 1048576) := hw
  clear hw
  go_enter Try.func10, Try.ntmps10
  go_wp2
  clear hmk
  go_loopw [11] (fun i wr => ∃ k : Nat, k ≤ n ∧ i = .int .i64 k ∧ Tx w wr n C N M k) (fun i _ => n - (intOf i).toNat)
  case atStart => exact ⟨0, Nat.zero_le _, rfl, Tx.start w n C N M⟩
  case round =>
    obtain ⟨k, hk, rfl, hT⟩ := hrel
    by_cases hlt : k < n
    · have hz : (k : Int) < (n : Int) := by omega
      have p0 := hp.1 k hlt
      have hgs : g < w.heap.size := World.block_lt_of_cell? _ _ p0
      have d0 : wr.cell? ⟨g, k, none⟩ = some (.pointer (some ⟨g + 1 + k, 0, none⟩)) := (hT.below.cell (p := ⟨g, k, none⟩) hgs).trans p0
      have o0 := hp.2 k hlt
      have hos : g + 1 + k < w.heap.size := (Array.getElem?_eq_some_iff.1 o0).1
      have ob : wr.heap[g + 1 + k]? = some (.cells #[.string (C k), .string (N k), .string (M k)] 32 (0, 0)) := (hT.below.block _ hos).trans o0
      have e0 : wr.cell? ⟨w.heap.size, k, none⟩ = some (.string ByteArray.empty) := by rw [hT.row.cell hlt, if_neg (by omega)]
      have z0 : wr.frozen? ⟨w.heap.size, k, none⟩ = false := hT.row.frozen k
      have HE := error_any (g + 1 + k) (C k) (N k) (M k) wr ob (wt_le C N M n k hlt HW.out)
      have HE' : Hid (Calls Try.prog 11 #[.pointer (some ⟨g + 1 + k, 0, none⟩)] wr fun r w' => r = .returned (.string (txs C N M k)) ∧ ∃ q, w' = wr.drewN q) := HE
      clear p0 o0 ob HE
      go_wp2_with (go_at_call 11; refine HE'.out.mono ?_; rintro e w' ⟨rfl, q, rfl⟩)
      go_roundw
      case rel => exact ⟨k + 1, by omega, by go_num, hT.step q⟩
      case measure => simp [intOf]; omega
    · have hz : ¬ (k : Int) < (n : Int) := by omega
      obtain rfl : k = n := by omega
      by_cases h0 : k = 0
      · subst h0
        go_wp2_with fail
        refine (Try.strings_Join_none _ _ _ _).mono ?_
        rintro e w' ⟨rfl, rfl⟩
        go_wp2
        go_ret
        exact ⟨ret_str rfl, hT.below⟩
      · have hJ := Try.strings_Join w.heap.size 0 k ((List.range k).map (txs C N M)) ⟨#[10]⟩ wr (fun j x hx => by
            have hj : j < k := by have := (List.getElem?_eq_some_iff.1 hx).1; simpa using this
            have e1 : txs C N M j = x := by simpa [hj] using hx
            rw [Nat.zero_add, hT.row.cell hj, if_pos hj, e1]) (by have := hT.row.lt; exact this) (by simp; omega) (by simp) (by
            have := join_len C N M k HW.out
            simp only [List.map_map]
            have e2 : ((fun x : ByteArray => x.data.toList) ∘ txs C N M) = tx C N M := by funext i; simp [txs]
            rw [e2]
            exact Nat.le_trans this (by omega))
        have e2 : (List.map (fun x : ByteArray => x.data.toList) ((List.range k).map (txs C N M))) = (List.range k).map (tx C N M) := by
          rw [List.map_map]
          rfl
        rw [e2] at hJ
        simp only [List.length_map, List.length_range] at hJ
        have HJ : Hid (Calls Try.prog 12 #[.slice (some ⟨w.heap.size, 0, none⟩) k k, .string ⟨#[10]⟩] wr fun e w' => e = .returned (.string ⟨(Lib.join ((List.range k).map (tx C N M)) [10]).toArray⟩) ∧ Below wr.heap.size wr w') := hJ
        clear hJ e2
        go_wp2_with fail
        refine HJ.out.mono ?_
        rintro e w' ⟨rfl, hb⟩
        go_wp2
        go_ret
        exact ⟨rfl, hT.below.trans (hb.mono hT.below.size)⟩

theorem zzlines_any (g n c : Nat) (C N M : Nat → ByteArray) (w : World) (hn : n ≤ 4096) (hw : 48 * n + sum (wt C N M) n ≤ 1048576) (hp : Ptrs w g n C N M) :
    Calls Try.prog 8 #[.slice (some ⟨g, 0, none⟩) n c] w fun r w' => r = .returned (.string ⟨(Lib.join ((List.range n).map (tx C N M)) [10]).toArray⟩) ∧ Below w.heap.size w w' := by
  have HL := lines_any g n c C N M w hn hw hp
  go_enter Try.func8, Try.ntmps8
  go_wp2_with (go_at_call 10; refine HL.mono ?_; rintro e w' ⟨rfl, hb⟩)
  go_ret
  exact ⟨rfl, hb⟩
end Go.Proofs.Qxb6602234a
