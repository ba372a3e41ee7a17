import Derived.Test.Qxb6602208aRows
import Derived.WalkKit
import Derived.WalkSpells
import Derived.Below
import Derived.WalkSmall
import Derived.Maps.OwnSet
namespace Go.Proofs.Qxb6602208a
open Go.RowKit Go.Maps

theorem law3 : Keyed Try.prog 3 := int_keyed Try.underlying3
theorem zero27 (w : World) : (zeroValue 27).run Try.prog w = .ok (.int .u64 0) w := by kernel_rfl

/-- A map from int to uint64: nil, or one that reads well. -/
def MapOk (H : Type) (w : World) (m : Option Nat) : Prop :=
  m = none ∨ ∃ (b n : Nat) (D : DataW H), m = some b ∧ n ≤ maxLen ∧ w.ownsMap Try.prog 3 (plainElem Try.prog 27) b n D

theorem MapOk.same {H : Type} {w w' : World} {m : Option Nat} (h : MapOk H w m) (e : ∀ b, m = some b → w'.heap[b]? = w.heap[b]?) : MapOk H w' m := by
  rcases h with h | ⟨b, n, D, hm, hn, es, clock, hb, r⟩
  · exact .inl h
  · exact .inr ⟨b, n, D, hm, hn, es, clock, (e b hm).trans hb, r⟩

theorem MapOk.lt {H : Type} {w : World} {m : Option Nat} (h : MapOk H w m) {b : Nat} (hm : m = some b) : b < w.heap.size := by
  rcases h with h | ⟨b', n, D, hm', hn, hown⟩
  · rw [h] at hm; cases hm
  · rw [hm] at hm'; cases hm'; exact hown.lt

theorem MapOk.below {H : Type} {w w' : World} {m : Option Nat} (h : MapOk H w m) {B : Nat} (hb : Below B w w') (hB : ∀ b, m = some b → b < B) : MapOk H w' m := h.same fun b hm => hb.block b (hB b hm)

/-- A look-up answers something, and leaves the world alone. -/
theorem MapOk.look {H : Type} {w : World} {m : Option Nat} (h : MapOk H w m) {t : TypeId} (ht : Try.prog.underlying t = some (.map 3 27)) {i : Int} (hi : (Lit.int .i64 i).wf = true) :
    ∃ (v : Int) (b : Bool), (m = none → b = false) ∧ (Lit.int .u64 v).wf = true ∧ (Instr.lookup t (.map m) (.int .i64 i) true).run Try.prog w = .ok (.tuple #[.int .u64 v, .bool b]) w := by
  rcases h with rfl | ⟨b, n, D, rfl, hn, hown⟩
  · exact ⟨0, false, fun _ => rfl, by decide, look_nil (w := w) true law3 ht (zero27 _) (keyOf_int_mk Try.underlying3 hi)⟩
  · obtain ⟨v, ps, hrun, hv⟩ := hown.look_ok law3 ht (zero27 w) (plainElem_int Try.underlying27 (by decide)) (keyOf_int_mk Try.underlying3 hi)
    obtain ⟨c, rfl, _, hwc⟩ := plainElem_int_inv Try.underlying27 hv
    exact ⟨c, _, fun h => by (cases h), hwc, hrun⟩

theorem MapOk.len {H : Type} {w : World} {m : Option Nat} (h : MapOk H w m) : ∃ ml : Nat, ml ≤ maxLen ∧ ∀ ty, (Builtin.len_ #[38] ty #[.map m]).run Try.prog w = .ok (.int .i64 ml) w := by
  rcases h with rfl | ⟨b, n, D, rfl, hn, hown⟩
  · exact ⟨0, Nat.zero_le _, fun ty => len_nil (w := w) Try.underlying38 ty⟩
  · exact ⟨_, Nat.le_trans hown.size_le hn, fun ty => hown.len Try.underlying38 ty⟩

set_option maxHeartbeats 1000000 in
theorem conv_any {H : Type} (m : Option Nat) (n : Nat) (w : World) (hn : n ≤ 65536) (hm : MapOk H w m) :
    Calls Try.prog 18 #[.map m, .int .i64 n] w fun r w' => ∃ m', r = .returned (.map m') ∧ MapOk H w' m' ∧ Below w.heap.size w w' := by
  have q38 : ∀ (w : World) (r : Option Nat), (binOp .eql 38 (.map r) (.map none)).run Try.prog w = .ok (.bool r.isNone) w := fun w r => run_eql_map_nil w _ _ _ r Try.underlying38
  cases m with
  | none =>
    go_enter Try.func18, Try.ntmps18
    go_wp2
    go_ret
    exact ⟨none, rfl, .inl rfl, Below.refl _ _⟩
  | some b =>
    have hb : b < w.heap.size := hm.lt rfl
    have hmm := @run_makeMap Try.prog
    go_enter Try.func18, Try.ntmps18
    go_wp2
    clear hmm q38
    go_loopw [6] (fun i wr => ∃ (k : Nat) (D : DataW H), k ≤ n ∧ i = .int .i64 k ∧ wr.ownsMap Try.prog 3 (plainElem Try.prog 27) w.heap.size k D ∧ Below w.heap.size w wr) (fun i _ => n - (intOf i).toNat)
    case atStart => exact ⟨0, .map [], Nat.zero_le _, rfl, World.ownsMap_made _ _ _ _, (Below.refl _ _).alloc (Nat.le_refl _) _⟩
    case round =>
      obtain ⟨k, D, hk, rfl, hown, hbel⟩ := hrel
      by_cases hlt : k < n
      · have hkz : (k : Int) < (n : Int) := by omega
        have hwk : (Lit.int .i64 (k : Int)).wf = true := WalkArith.wf_i64 (by omega)
        obtain ⟨v, ok, _, hwv, hrun⟩ := (hm.below hbel (fun b' e => by cases e; exact hb)).look Try.underlying38 hwk
        cases ok
        · go_wp2
          go_roundw
          case rel => exact ⟨k + 1, D, by omega, by go_num, hown.mono (by omega), hbel⟩
          case measure => simp [intOf]; omega
        · go_wp2_with (first
            | (at_mapUpdate; refine wpList_mapUpdate_own _ rfl _ _ _ 38 rfl 3 27 law3 Try.underlying38 _ w.heap.size k D rfl hown (by unfold maxLen; omega) _ _ _ rfl rfl (keyOf_int_mk Try.underlying3 hwk) _ [] (plainElem_int Try.underlying27 hwv) ?_; intro w1 hown1 hgrow1)
            | go_in)
          go_roundw
          case rel => exact ⟨k + 1, _, by omega, by go_num, hown1, hbel.grown hgrow1 hbel.size (fun j hj => by cases hj; exact Nat.le_refl _)⟩
          case measure => simp [intOf]; omega
      · have hkz : ¬ (k : Int) < (n : Int) := by omega
        go_wp2
        go_ret
        exact ⟨_, rfl, .inr ⟨_, k, D, rfl, by unfold maxLen; omega, hown⟩, hbel⟩
end Go.Proofs.Qxb6602208a
