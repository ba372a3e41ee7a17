import Derived.Test.Qxb6602234aRows
import Derived.Test.Qxb6602234aWalkC
import Derived.WalkKit
import Derived.WalkSpells
import Derived.Below
import Derived.WalkSmall
import Derived.Deep.OwnRows
import Derived.Deep.RegionHeld3
namespace Go.Proofs.Qxb6602234a
open Go.RowKit Plain

theorem Try.info31 : (Try.prog.info? 31).map (fun i => (i.zero, i.size, i.bytes)) = some (some (.pointer none), 1, 8) := by kernel_rfl

/-- The new errors: a row of pointers, then one block an error. -/
structure Mk (w wr : World) (n : Nat) (C N M : Nat → ByteArray) (k : Nat) : Prop where
  below : Below w.heap.size w wr
  size : wr.heap.size = w.heap.size + 1 + k
  row : wr.rowIs w.heap.size 31 n (fun j => if j < k then .pointer (some ⟨w.heap.size + 1 + j, 0, none⟩) else .pointer none)
  obj : ∀ j, j < k → wr.heap[w.heap.size + 1 + j]? = some (.cells #[.string (C j), .string (N j), .string (M j)] 32 (0, 0))

theorem Mk.start (w : World) (n : Nat) (C N M : Nat → ByteArray) : Mk w (w.alloc (.cells (madeCells #[.pointer none] n) 31)) n C N M 0 :=
  ⟨(Below.refl _ _).alloc (Nat.le_refl _) _, by simp, (World.rowIs_made w _ n 31).congr (fun j _ => by simp), fun j hj => absurd hj (by omega)⟩

theorem Mk.step {w wr : World} {n : Nat} {C N M : Nat → ByteArray} {k : Nat} (h : Mk w wr n C N M k) :
    Mk w ((wr.alloc (.cells #[.string (C k), .string (N k), .string (M k)] 32)).setCell ⟨w.heap.size, k, none⟩ (.pointer (some ⟨w.heap.size + 1 + k, 0, none⟩))) n C N M (k + 1) := by
  refine ⟨(h.below.alloc h.below.size _).setCell (Nat.le_refl _) _, by simp [h.size]; omega, ((h.row.alloc _).set k _).congr (fun i _ => ?_), fun j hj => ?_⟩
  · by_cases e : i = k
    · subst e; simp
    · rw [if_neg e]
      by_cases hlt : i < k
      · rw [if_pos hlt, if_pos (by omega)]
      · rw [if_neg hlt, if_neg (by omega)]
  · rw [Below.heap_setCell _ _ _ _ (by show w.heap.size + 1 + j ≠ w.heap.size; omega)]
    by_cases e : j = k
    · subst e
      have := heap_alloc_new wr (.cells #[.string (C j), .string (N j), .string (M j)] 32)
      rw [h.size] at this
      exact this
    · rw [Below.heap_alloc _ _ _ (by rw [h.size]; omega)]
      exact h.obj j (by omega)

theorem Mk.drewN {w wr : World} {n : Nat} {C N M : Nat → ByteArray} {k : Nat} (h : Mk w wr n C N M k) (q : Nat) : Mk w (wr.drewN q) n C N M k :=
  ⟨below_drewN h.below q, h.size, h.row.of_block rfl, h.obj⟩

set_option maxRecDepth 100000 in
set_option maxHeartbeats 3200000 in
theorem make_any (a : Option Addr) (n c : Nat) (C N M : Nat → ByteArray) (w : World) (hn : n ≤ 4096) (hv : OwnE w a n C N M) :
    Calls Try.prog 7 #[.slice a n c] w fun r w' => r = .returned (.slice (some ⟨w.heap.size, 0, none⟩) n n) ∧ Mk w w' n C N M n := by
  obtain ⟨g, ha, hc⟩ := hv
  have hmk := run_make_row' (P := Try.prog) 25 31 (.pointer none) 8 Try.underlying25 Try.info31 rfl .i64 .i64 n (by omega) (by omega)
  go_enter Try.func7, Try.ntmps7
  go_wp2
  clear hmk
  go_loopw [4] (fun i wr => ∃ k : Nat, k ≤ n ∧ i = .int .i64 k ∧ Mk w wr n C N M k) (fun i _ => n - (intOf i).toNat)
  case atStart => exact ⟨0, Nat.zero_le _, rfl, Mk.start w n C N M⟩
  case round =>
    obtain ⟨k, hk, rfl, hM⟩ := hrel
    by_cases hlt : k < n
    · obtain rfl := ha (by omega)
      have hz : (k : Int) < (n : Int) := by omega
      have hz0 : (0 : Int) ≤ (k : Int) := Int.natCast_nonneg _
      obtain ⟨c0, c1, c2⟩ := hc k hlt
      have hgs : g < w.heap.size := World.block_lt_of_cell? _ _ c0
      have hsz := hM.size
      have d0 : wr.cell? ⟨g, k * 3, none⟩ = some (.string (C k)) := (hM.below.cell (p := ⟨g, k * 3, none⟩) hgs).trans c0
      have d1 : wr.cell? ⟨g, k * 3 + 1, none⟩ = some (.string (N k)) := (hM.below.cell (p := ⟨g, k * 3 + 1, none⟩) hgs).trans c1
      have d2 : wr.cell? ⟨g, k * 3 + 2, none⟩ = some (.string (M k)) := (hM.below.cell (p := ⟨g, k * 3 + 2, none⟩) hgs).trans c2
      have e0 : ∀ o, (wr.alloc o).cell? ⟨w.heap.size, k, none⟩ = some (.pointer none) := fun o => by rw [(hM.row.alloc o).cell hlt, if_neg (by omega)]
      have z0 : ∀ o, (wr.alloc o).frozen? ⟨w.heap.size, k, none⟩ = false := fun o => (hM.row.alloc o).frozen k
      have ts : ∀ o v j, ((wr.alloc o).setCell ⟨w.heap.size, k, none⟩ v).cell? ⟨g, j, none⟩ = wr.cell? ⟨g, j, none⟩ := fun o v j => by
        rw [World.cell?_setCell_other _ _ _ _ (fun e => by have := congrArg Addr.block e; simp at this; omega), World.cell?_alloc_old _ _ _ (by show g ≠ wr.heap.size; omega)]
      have t0 : ∀ o v, ((wr.alloc o).setCell ⟨w.heap.size, k, none⟩ v).cell? ⟨g, k * 3, none⟩ = some (.string (C k)) := fun o v => (ts o v _).trans d0
      have t1 : ∀ o v, ((wr.alloc o).setCell ⟨w.heap.size, k, none⟩ v).cell? ⟨g, k * 3 + 1, none⟩ = some (.string (N k)) := fun o v => (ts o v _).trans d1
      have t2 : ∀ o v, ((wr.alloc o).setCell ⟨w.heap.size, k, none⟩ v).cell? ⟨g, k * 3 + 2, none⟩ = some (.string (M k)) := fun o v => (ts o v _).trans d2
      clear c0 c1 c2 ts
      go_wp2_with fail
      go_region_held3 (fun w' => w'.cell? ⟨g, k * 3, none⟩ = some (.string (C k)) ∧ w'.cell? ⟨g, k * 3 + 1, none⟩ = some (.string (N k)) ∧ w'.cell? ⟨g, k * 3 + 2, none⟩ = some (.string (M k))) (go_keep) (fail)
      go_wp2
      go_roundw
      case rel => exact ⟨k + 1, by omega, by go_num, hM.step.drewN 1⟩
      case measure => simp [intOf]; omega
    · have hz : ¬ (k : Int) < (n : Int) := by omega
      obtain rfl : k = n := by omega
      go_wp2
      go_ret
      exact ⟨rfl, hM⟩
end Go.Proofs.Qxb6602234a
