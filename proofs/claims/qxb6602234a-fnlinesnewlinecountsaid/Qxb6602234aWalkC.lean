import Derived.Test.Qxb6602234aRows
import Derived.Test.Qxb6602234aWalkB
import Derived.WalkKit
import Derived.WalkSpells
import Derived.Below
import Derived.Deep.OwnRows
namespace Go.Proofs.Qxb6602234a
open Go.RowKit Plain

/-- Cell j of a row of errors. -/
def cell3 (C N M : Nat → ByteArray) (j : Nat) : Value := if j % 3 = 0 then .string (C (j / 3)) else if j % 3 = 1 then .string (N (j / 3)) else .string (M (j / 3))

theorem cell3_0 (C N M : Nat → ByteArray) (k : Nat) : cell3 C N M (k * 3) = .string (C k) := by
  unfold cell3; rw [if_pos (by omega), show k * 3 / 3 = k from by omega]
theorem cell3_1 (C N M : Nat → ByteArray) (k : Nat) : cell3 C N M (k * 3 + 1) = .string (N k) := by
  unfold cell3; rw [if_neg (by omega), if_pos (by omega), show (k * 3 + 1) / 3 = k from by omega]
theorem cell3_2 (C N M : Nat → ByteArray) (k : Nat) : cell3 C N M (k * 3 + 2) = .string (M k) := by
  unfold cell3; rw [if_neg (by omega), if_neg (by omega), show (k * 3 + 2) / 3 = k from by omega]

theorem Try.info30 : (Try.prog.info? 30).map (fun i => (i.zero, i.size, i.bytes)) = some (some (.agg #[.string ByteArray.empty, .string ByteArray.empty, .string ByteArray.empty]), 3, 48) := by kernel_rfl

/-- make([]ZZErr, n): a new row of 3 n empty strings. -/
theorem make30 (n : Nat) (hn : n ≤ 4096) (w : World) :
    (Instr.makeSlice 22 (.int .i64 (n : Int)) (.int .i64 (n : Int))).run Try.prog w = .ok (.slice (some ⟨w.heap.size, 0, none⟩) n n) (w.alloc (.cells (madeCells #[.string ByteArray.empty, .string ByteArray.empty, .string ByteArray.empty] (n * 3)) 30)) := by
  obtain ⟨i, hi, hz, hs, hb⟩ := info_parts Try.info30
  have hr := run_make (P := Try.prog) w 22 30 i _ Try.underlying22 hi hz .i64 .i64 n n (by omega) (Int.le_refl _) (by rw [hb]; omega) (by omega)
  simp only [Int.toNat_natCast, hs] at hr
  exact hr

theorem row30 (w : World) (n : Nat) : (w.alloc (.cells (madeCells #[.string ByteArray.empty, .string ByteArray.empty, .string ByteArray.empty] (n * 3)) 30)).rowIs w.heap.size 30 (n * 3) (fun _ => .string ByteArray.empty) := by
  refine ⟨_, heap_alloc_new w _, size_madeCells _ _, fun i hi => ?_⟩
  have h3 : i % 3 = 0 ∨ i % 3 = 1 ∨ i % 3 = 2 := by omega
  rcases h3 with h | h | h <;> simp [madeCells, hi, h]

structure Cl3 (w wr : World) (n : Nat) (C N M : Nat → ByteArray) (k : Nat) : Prop where
  below : Below w.heap.size w wr
  row : wr.rowIs w.heap.size 30 (n * 3) (fun j => if j < k * 3 then cell3 C N M j else .string ByteArray.empty)

theorem Cl3.start (w : World) (n : Nat) (C N M : Nat → ByteArray) : Cl3 w (w.alloc (.cells (madeCells #[.string ByteArray.empty, .string ByteArray.empty, .string ByteArray.empty] (n * 3)) 30)) n C N M 0 :=
  ⟨(Below.refl _ _).alloc (Nat.le_refl _) _, (row30 w n).congr (fun j _ => by simp)⟩

theorem Cl3.step {w wr : World} {n : Nat} {C N M : Nat → ByteArray} {k : Nat} (h : Cl3 w wr n C N M k) :
    Cl3 w (((wr.setCell ⟨w.heap.size, k * 3, none⟩ (.string (C k))).setCell ⟨w.heap.size, k * 3 + 1, none⟩ (.string (N k))).setCell ⟨w.heap.size, k * 3 + 2, none⟩ (.string (M k))) n C N M (k + 1) := by
  refine ⟨((h.below.setCell (Nat.le_refl _) _).setCell (Nat.le_refl _) _).setCell (Nat.le_refl _) _, (((h.row.set (k * 3) _).set (k * 3 + 1) _).set (k * 3 + 2) _).congr (fun i _ => ?_)⟩
  by_cases e2 : i = k * 3 + 2
  · subst e2; rw [if_pos rfl, if_pos (by omega), cell3_2]
  · rw [if_neg e2]
    by_cases e1 : i = k * 3 + 1
    · subst e1; rw [if_pos rfl, if_pos (by omega), cell3_1]
    · rw [if_neg e1]
      by_cases e0 : i = k * 3
      · subst e0; rw [if_pos rfl, if_pos (by omega), cell3_0]
      · rw [if_neg e0]
        by_cases hlt : i < k * 3
        · rw [if_pos hlt, if_pos (by omega)]
        · rw [if_neg hlt, if_neg (by omega)]

/-- The copy. -/
def Own3 (w : World) (a : Option Addr) (g n : Nat) (C N M : Nat → ByteArray) : Prop :=
  (0 < n → a = some ⟨g, 0, none⟩) ∧ ∀ i, i < n → w.cell? ⟨g, i * 3, none⟩ = some (.string (C i)) ∧ w.cell? ⟨g, i * 3 + 1, none⟩ = some (.string (N i)) ∧ w.cell? ⟨g, i * 3 + 2, none⟩ = some (.string (M i))

theorem Own3.below {w w' : World} {a : Option Addr} {g n : Nat} {C N M : Nat → ByteArray} (h : Own3 w a g n C N M) (hb : Below w.heap.size w w') : Own3 w' a g n C N M :=
  ⟨h.1, fun i hi => ⟨(hb.cell (p := ⟨g, i * 3, none⟩) (World.block_lt_of_cell? _ _ (h.2 i hi).1)).trans (h.2 i hi).1, (hb.cell (p := ⟨g, i * 3 + 1, none⟩) (World.block_lt_of_cell? _ _ (h.2 i hi).2.1)).trans (h.2 i hi).2.1,
    (hb.cell (p := ⟨g, i * 3 + 2, none⟩) (World.block_lt_of_cell? _ _ (h.2 i hi).2.2)).trans (h.2 i hi).2.2⟩⟩

def OwnE (w : World) (a : Option Addr) (n : Nat) (C N M : Nat → ByteArray) : Prop := ∃ g, Own3 w a g n C N M

theorem Cl3.done {w wr : World} {n : Nat} {C N M : Nat → ByteArray} (h : Cl3 w wr n C N M n) : Own3 wr (some ⟨w.heap.size, 0, none⟩) w.heap.size n C N M := by
  refine ⟨fun _ => rfl, fun i hi => ⟨?_, ?_, ?_⟩⟩
  · rw [h.row.cell (by omega), if_pos (by omega), cell3_0]
  · rw [h.row.cell (by omega), if_pos (by omega), cell3_1]
  · rw [h.row.cell (by omega), if_pos (by omega), cell3_2]

set_option maxHeartbeats 1000000 in
theorem clone_any (a : Option Addr) (n c : Nat) (C N M : Nat → ByteArray) (w : World) (hn : n ≤ 4096) (hv : View3 w a n c C N M) :
    Calls Try.prog 6 #[.slice a n c] w fun r w' => ∃ ra, r = .returned (.slice ra n n) ∧ OwnE w' ra n C N M ∧ Below w.heap.size w w' := by
  have q : ∀ (w : World) (a : Option Addr) (n c n' c' : Nat), (binOp .eql 22 (.slice a n c) (.slice none n' c')).run Try.prog w = .ok (.bool a.isNone) w := fun w a n c n' c' => Lib.run_eql_slice_nil w _ _ a n c n' c' Try.underlying22
  rcases hv with ⟨rfl, rfl, rfl⟩ | ⟨x, b, o, rfl, ha, hc⟩
  · go_enter Try.func6, Try.ntmps6
    go_wp2
    go_ret
    exact ⟨none, rfl, ⟨0, fun h => absurd h (by omega), fun i h => absurd h (by omega)⟩, Below.refl _ _⟩
  · have hmk := make30 n hn
    go_enter Try.func6, Try.ntmps6
    go_wp2
    clear hmk q
    go_loopw [4] (fun i wr => ∃ k : Nat, k ≤ n ∧ i = .int .i64 k ∧ Cl3 w wr n C N M k) (fun i _ => n - (intOf i).toNat)
    case atStart => exact ⟨0, Nat.zero_le _, rfl, Cl3.start w n C N M⟩
    case round =>
      obtain ⟨k, hk, rfl, hC⟩ := hrel
      by_cases hlt : k < n
      · obtain rfl := ha (by omega)
        have hz : (k : Int) < (n : Int) := by omega
        obtain ⟨c0, c1, c2⟩ := hc k hlt
        have hbs : b < w.heap.size := World.block_lt_of_cell? _ _ c0
        have d0 : wr.cell? ⟨b, o + k * 3, none⟩ = some (.string (C k)) := (hC.below.cell (p := ⟨b, o + k * 3, none⟩) hbs).trans c0
        have d1 : wr.cell? ⟨b, o + k * 3 + 1, none⟩ = some (.string (N k)) := (hC.below.cell (p := ⟨b, o + k * 3 + 1, none⟩) hbs).trans c1
        have d2 : wr.cell? ⟨b, o + k * 3 + 2, none⟩ = some (.string (M k)) := (hC.below.cell (p := ⟨b, o + k * 3 + 2, none⟩) hbs).trans c2
        have e0 : wr.cell? ⟨w.heap.size, k * 3, none⟩ = some (.string ByteArray.empty) := by rw [hC.row.cell (by omega), if_neg (by omega)]
        have e1 : wr.cell? ⟨w.heap.size, k * 3 + 1, none⟩ = some (.string ByteArray.empty) := by rw [hC.row.cell (by omega), if_neg (by omega)]
        have e2 : wr.cell? ⟨w.heap.size, k * 3 + 2, none⟩ = some (.string ByteArray.empty) := by rw [hC.row.cell (by omega), if_neg (by omega)]
        have z : ∀ j, wr.frozen? ⟨w.heap.size, j, none⟩ = false := fun j => hC.row.frozen j
        clear c0 c1 c2
        go_wp2
        go_roundw
        case rel => exact ⟨k + 1, by omega, by go_num, hC.step⟩
        case measure => simp [intOf]; omega
      · have hz : ¬ (k : Int) < (n : Int) := by omega
        obtain rfl : k = n := by omega
        go_wp2
        go_ret
        exact ⟨_, rfl, ⟨_, hC.done⟩, hC.below⟩
end Go.Proofs.Qxb6602234a
