import Derived.Test.Qxb6602208aRows
import Derived.WalkKit
import Derived.WalkSpells
import Derived.Below
import Derived.Deep.OwnRows
namespace Go.Proofs.Qxb6602208a
open Go.RowKit

/-- A float is stored as any one-cell value is (the kit has the like for integers, bools, strings ..). -/
theorem run_store_float {P : Program} {w : World} {a : Addr} {m : Mode} (k : FloatKind) (b : Nat) : (store a (.float k b) m).run P w = stored P w a (.float k b) m := run_store P w a _ m rfl
attribute [local go_sem] run_store_float

/-- A slice of one-cell elements that came in: nil; or its cells hold f. -/
def View (w : World) (a : Option Addr) (n c : Nat) (f : Nat → Value) : Prop :=
  (a = none ∧ n = 0 ∧ c = 0) ∨ ∃ x b o, a = some x ∧ (0 < n → x = ⟨b, o, none⟩) ∧ (∀ i, i < n → w.cell? ⟨b, o + i, none⟩ = some (f i))

/-- A slice over the head of block g whose cells hold f. -/
def Own (w : World) (a : Option Addr) (g n : Nat) (f : Nat → Value) : Prop :=
  (0 < n → a = some ⟨g, 0, none⟩) ∧ ∀ i, i < n → w.cell? ⟨g, i, none⟩ = some (f i)

/-- What holds at the head of a copying loop, k cells copied. -/
structure Cp (w wr : World) (t : TypeId) (z : Value) (n : Nat) (f : Nat → Value) (k : Nat) : Prop where
  below : Below w.heap.size w wr
  row : wr.rowIs w.heap.size t n (fun i => if i < k then f i else z)

theorem Cp.start (w : World) (t : TypeId) (z : Value) (n : Nat) (f : Nat → Value) : Cp w (w.alloc (.cells (madeCells #[z] n) t)) t z n f 0 :=
  ⟨(Below.refl _ _).alloc (Nat.le_refl _) _, (World.rowIs_made w _ n t).congr (fun j _ => by simp)⟩

theorem Cp.step {w wr : World} {t : TypeId} {z : Value} {n : Nat} {f : Nat → Value} {k : Nat} (h : Cp w wr t z n f k) : Cp w (wr.setCell ⟨w.heap.size, k, none⟩ (f k)) t z n f (k + 1) := by
  refine ⟨h.below.setCell (Nat.le_refl _) _, (h.row.set k _).congr (fun i _ => ?_)⟩
  by_cases e : i = k
  · subst e; simp
  · rw [if_neg e]
    by_cases hlt : i < k
    · rw [if_pos hlt, if_pos (by omega)]
    · rw [if_neg hlt, if_neg (by omega)]

theorem Try.info3 : (Try.prog.info? 3).map (fun i => (i.zero, i.size, i.bytes)) = some (some (.int .i64 0), 1, 8) := by kernel_rfl
theorem Try.info22 : (Try.prog.info? 22).map (fun i => (i.zero, i.size, i.bytes)) = some (some (.float .f64 0), 1, 8) := by kernel_rfl
theorem Try.info9 : (Try.prog.info? 9).map (fun i => (i.zero, i.size, i.bytes)) = some (some (.string ByteArray.empty), 1, 16) := by kernel_rfl

set_option maxHeartbeats 400000 in
theorem clone16_any (a : Option Addr) (n c : Nat) (f : Nat → Int) (w : World) (hn : n ≤ 65536) (hv : View w a n c (fun i => .int .i64 (f i))) :
    Calls Try.prog 16 #[.slice a n c] w fun r w' => ∃ ra, r = .returned (.slice ra n n) ∧ Own w' ra w.heap.size n (fun i => .int .i64 (f i)) ∧ Below w.heap.size w w' := by
  have q : ∀ (w : World) (a : Option Addr) (n c n' c' : Nat), (binOp .eql 35 (.slice a n c) (.slice none n' c')).run Try.prog w = .ok (.bool a.isNone) w := fun w a n c n' c' => Lib.run_eql_slice_nil w _ _ a n c n' c' Try.underlying35
  rcases hv with ⟨rfl, rfl, rfl⟩ | ⟨x, b, o, rfl, ha, hc⟩
  · go_enter Try.func16, Try.ntmps16
    go_wp2
    go_ret
    exact ⟨none, rfl, ⟨fun h => absurd h (by omega), fun i h => absurd h (by omega)⟩, Below.refl _ _⟩
  · have hmk := run_make_row' (P := Try.prog) 35 3 (.int .i64 0) 8 Try.underlying35 Try.info3 rfl .i64 .i64 n (by omega) (by omega)
    go_enter Try.func16, Try.ntmps16
    go_wp2
    clear hmk q
    go_loopw [4] (fun i wr => ∃ k : Nat, k ≤ n ∧ i = .int .i64 k ∧ Cp w wr 3 (.int .i64 0) n (fun i => .int .i64 (f i)) k) (fun i _ => n - (intOf i).toNat)
    case atStart => exact ⟨0, Nat.zero_le _, rfl, Cp.start w _ _ n _⟩
    case round =>
      obtain ⟨k, hk, rfl, hC⟩ := hrel
      by_cases hlt : k < n
      · obtain rfl := ha (by omega)
        have hz : (k : Int) < (n : Int) := by omega
        have hbs : b < w.heap.size := World.block_lt_of_cell? _ _ (hc k hlt)
        have h1 : wr.cell? ⟨b, o + k, none⟩ = some (.int .i64 (f k)) := (hC.below.cell (p := ⟨b, o + k, none⟩) hbs).trans (hc k hlt)
        have h2 : wr.cell? ⟨w.heap.size, k, none⟩ = some (.int .i64 0) := by simpa using hC.row.cell hlt
        have h3 : wr.frozen? ⟨w.heap.size, k, none⟩ = false := hC.row.frozen k
        go_wp2
        go_roundw
        case rel => exact ⟨k + 1, by omega, by go_num, hC.step⟩
        case measure => simp [intOf]; omega
      · have hz : ¬ (k : Int) < (n : Int) := by omega
        go_wp2
        go_ret
        exact ⟨_, rfl, ⟨fun _ => rfl, fun i hi => by have := hC.row.cell hi; rw [this]; exact congrArg some (if_pos (by omega))⟩, hC.below⟩

set_option maxHeartbeats 400000 in
theorem clone17_any (a : Option Addr) (n c : Nat) (f : Nat → Nat) (w : World) (hn : n ≤ 65536) (hv : View w a n c (fun i => .float .f64 (f i))) :
    Calls Try.prog 17 #[.slice a n c] w fun r w' => ∃ ra, r = .returned (.slice ra n n) ∧ Own w' ra w.heap.size n (fun i => .float .f64 (f i)) ∧ Below w.heap.size w w' := by
  have q : ∀ (w : World) (a : Option Addr) (n c n' c' : Nat), (binOp .eql 36 (.slice a n c) (.slice none n' c')).run Try.prog w = .ok (.bool a.isNone) w := fun w a n c n' c' => Lib.run_eql_slice_nil w _ _ a n c n' c' Try.underlying36
  rcases hv with ⟨rfl, rfl, rfl⟩ | ⟨x, b, o, rfl, ha, hc⟩
  · go_enter Try.func17, Try.ntmps17
    go_wp2
    go_ret
    exact ⟨none, rfl, ⟨fun h => absurd h (by omega), fun i h => absurd h (by omega)⟩, Below.refl _ _⟩
  · have hmk := run_make_row' (P := Try.prog) 36 22 (.float .f64 0) 8 Try.underlying36 Try.info22 rfl .i64 .i64 n (by omega) (by omega)
    go_enter Try.func17, Try.ntmps17
    go_wp2
    clear hmk q
    go_loopw [4] (fun i wr => ∃ k : Nat, k ≤ n ∧ i = .int .i64 k ∧ Cp w wr 22 (.float .f64 0) n (fun i => .float .f64 (f i)) k) (fun i _ => n - (intOf i).toNat)
    case atStart => exact ⟨0, Nat.zero_le _, rfl, Cp.start w _ _ n _⟩
    case round =>
      obtain ⟨k, hk, rfl, hC⟩ := hrel
      by_cases hlt : k < n
      · obtain rfl := ha (by omega)
        have hz : (k : Int) < (n : Int) := by omega
        have hbs : b < w.heap.size := World.block_lt_of_cell? _ _ (hc k hlt)
        have h1 : wr.cell? ⟨b, o + k, none⟩ = some (.float .f64 (f k)) := (hC.below.cell (p := ⟨b, o + k, none⟩) hbs).trans (hc k hlt)
        have h2 : wr.cell? ⟨w.heap.size, k, none⟩ = some (.float .f64 0) := by simpa using hC.row.cell hlt
        have h3 : wr.frozen? ⟨w.heap.size, k, none⟩ = false := hC.row.frozen k
        go_wp2
        go_roundw
        case rel => exact ⟨k + 1, by omega, by go_num, hC.step⟩
        case measure => simp [intOf]; omega
      · have hz : ¬ (k : Int) < (n : Int) := by omega
        go_wp2
        go_ret
        exact ⟨_, rfl, ⟨fun _ => rfl, fun i hi => by have := hC.row.cell hi; rw [this]; exact congrArg some (if_pos (by omega))⟩, hC.below⟩

set_option maxHeartbeats 400000 in
theorem clone19_any (a : Option Addr) (n c : Nat) (f : Nat → ByteArray) (w : World) (hn : n ≤ 65536) (hv : View w a n c (fun i => .string (f i))) :
    Calls Try.prog 19 #[.slice a n c] w fun r w' => ∃ ra, r = .returned (.slice ra n n) ∧ Own w' ra w.heap.size n (fun i => .string (f i)) ∧ Below w.heap.size w w' := by
  have q : ∀ (w : World) (a : Option Addr) (n c n' c' : Nat), (binOp .eql 37 (.slice a n c) (.slice none n' c')).run Try.prog w = .ok (.bool a.isNone) w := fun w a n c n' c' => Lib.run_eql_slice_nil w _ _ a n c n' c' Try.underlying37
  rcases hv with ⟨rfl, rfl, rfl⟩ | ⟨x, b, o, rfl, ha, hc⟩
  · go_enter Try.func19, Try.ntmps19
    go_wp2
    go_ret
    exact ⟨none, rfl, ⟨fun h => absurd h (by omega), fun i h => absurd h (by omega)⟩, Below.refl _ _⟩
  · have hmk := run_make_row' (P := Try.prog) 37 9 (.string ByteArray.empty) 16 Try.underlying37 Try.info9 rfl .i64 .i64 n (by omega) (by omega)
    go_enter Try.func19, Try.ntmps19
    go_wp2
    clear hmk q
    go_loopw [4] (fun i wr => ∃ k : Nat, k ≤ n ∧ i = .int .i64 k ∧ Cp w wr 9 (.string ByteArray.empty) n (fun i => .string (f i)) k) (fun i _ => n - (intOf i).toNat)
    case atStart => exact ⟨0, Nat.zero_le _, rfl, Cp.start w _ _ n _⟩
    case round =>
      obtain ⟨k, hk, rfl, hC⟩ := hrel
      by_cases hlt : k < n
      · obtain rfl := ha (by omega)
        have hz : (k : Int) < (n : Int) := by omega
        have hbs : b < w.heap.size := World.block_lt_of_cell? _ _ (hc k hlt)
        have h1 : wr.cell? ⟨b, o + k, none⟩ = some (.string (f k)) := (hC.below.cell (p := ⟨b, o + k, none⟩) hbs).trans (hc k hlt)
        have h2 : wr.cell? ⟨w.heap.size, k, none⟩ = some (.string ByteArray.empty) := by simpa using hC.row.cell hlt
        have h3 : wr.frozen? ⟨w.heap.size, k, none⟩ = false := hC.row.frozen k
        go_wp2
        go_roundw
        case rel => exact ⟨k + 1, by omega, by go_num, hC.step⟩
        case measure => simp [intOf]; omega
      · have hz : ¬ (k : Int) < (n : Int) := by omega
        go_wp2
        go_ret
        exact ⟨_, rfl, ⟨fun _ => rfl, fun i hi => by have := hC.row.cell hi; rw [this]; exact congrArg some (if_pos (by omega))⟩, hC.below⟩
end Go.Proofs.Qxb6602208a
