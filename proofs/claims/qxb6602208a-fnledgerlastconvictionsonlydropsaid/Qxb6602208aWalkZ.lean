import Derived.Test.Qxb6602208aRows
import Derived.Test.Qxb6602208aWalkL
import Derived.WalkKit
import Derived.WalkSpells
import Derived.Below
import Derived.WalkSmall
namespace Go.Proofs.Qxb6602208a
open Go.RowKit

attribute [local go_sem] run_store_float

theorem Own.below {w w' : World} {a : Option Addr} {g n : Nat} {f : Nat → Value} (h : Own w a g n f) (hb : Below w.heap.size w w') : Own w' a g n f :=
  ⟨h.1, fun i hi => (hb.cell (p := ⟨g, i, none⟩) (World.block_lt_of_cell? _ _ (h.2 i hi))).trans (h.2 i hi)⟩

/-- What the two calls of ZZLedgerLast are handed. -/
structure Arg (H : Type) (w : World) (la ca na : Option Addr) (gl gc gn n1 n3 n4 pv : Nat) (m : Option Nat) (L : Nat → Int) (F : Nat → Nat) (S : Nat → ByteArray) : Prop where
  pv1 : 0 < pv
  pv2 : pv ≤ 65536
  n1p : 0 < n1
  n1b : n1 ≤ 65536
  n34 : n3 ≤ n4
  n4b : n4 ≤ 65536
  inb : ∀ p : Nat, p < n1 → p < pv → 0 ≤ L p ∧ L p < (n4 : Int)
  ol : Own w la gl n1 (fun i => .int .i64 (L i))
  oc : Own w ca gc n3 (fun i => .float .f64 (F i))
  on : Own w na gn n4 (fun i => .string (S i))
  mp : MapOk H w m

theorem Arg.below {H : Type} {w w' : World} {la ca na : Option Addr} {gl gc gn n1 n3 n4 pv : Nat} {m : Option Nat} {L : Nat → Int} {F : Nat → Nat} {S : Nat → ByteArray}
    (h : Arg H w la ca na gl gc gn n1 n3 n4 pv m L F S) (hb : Below w.heap.size w w') : Arg H w' la ca na gl gc gn n1 n3 n4 pv m L F S :=
  ⟨h.pv1, h.pv2, h.n1p, h.n1b, h.n34, h.n4b, h.inb, h.ol.below hb, h.oc.below hb, h.on.below hb, h.mp.below hb (fun _ e => h.mp.lt e)⟩

theorem Arg.nomap {H : Type} {w : World} {la ca na : Option Addr} {gl gc gn n1 n3 n4 pv : Nat} {m : Option Nat} {L : Nat → Int} {F : Nat → Nat} {S : Nat → ByteArray}
    (h : Arg H w la ca na gl gc gn n1 n3 n4 pv m L F S) : Arg H w la ca na gl gc gn n1 n3 n4 pv none L F S :=
  ⟨h.pv1, h.pv2, h.n1p, h.n1b, h.n34, h.n4b, h.inb, h.ol, h.oc, h.on, .inl rfl⟩

/-- The block of the result, behind the call. -/
theorem res_block {w w1 : World} {o : Obj} (hb : Below ((w.alloc (.cells #[.int .u64 0, .slice none 0 0, .slice none 0 0] 47)).alloc o).heap.size ((w.alloc (.cells #[.int .u64 0, .slice none 0 0, .slice none 0 0] 47)).alloc o) w1) :
    w1.heap[w.heap.size]? = some (.cells #[.int .u64 0, .slice none 0 0, .slice none 0 0] 47 (0, 0)) := by
  rw [hb.block w.heap.size (by simp; omega), Below.heap_alloc _ _ _ (by simp)]
  exact heap_alloc_new w _

theorem zz_zero (la ca na : Option Addr) (n1 cl n3 cc n4 cn : Nat) (ep : Int) (m : Option Nat) (w : World) :
    Calls Try.prog 20 #[.int .u64 ep, .slice la n1 cl, .int .u64 0, .slice ca n3 cc, .slice na n4 cn, .map m] w fun r w' =>
      r = .returned (.tuple #[.agg #[.int .u64 0, .slice none 0 0, .slice none 0 0], .bool false]) ∧ Below w.heap.size w w' := by
  go_enter Try.func20, Try.ntmps20
  go_wp2_with fail
  refine (last_zero _ _ _ _ _ _ ?_).mono ?_
  · simp
  rintro r w1 ⟨rfl, hb⟩
  have hres := res_block hb
  have r0 : w1.cell? ⟨w.heap.size, 0, none⟩ = some (.int .u64 0) := by rw [cell_of_row w1 _ _ _ _ _ hres]; rfl
  have r1 : w1.cell? ⟨w.heap.size, 1, none⟩ = some (.slice none 0 0) := by rw [cell_of_row w1 _ _ _ _ _ hres]; rfl
  have r2 : w1.cell? ⟨w.heap.size, 2, none⟩ = some (.slice none 0 0) := by rw [cell_of_row w1 _ _ _ _ _ hres]; rfl
  have z : ∀ k, w1.frozen? ⟨w.heap.size, k, none⟩ = false := fun k => frozen_of_row w1 _ _ _ _ hres
  clear hres
  have HB : Hid (Below w.heap.size w w1) := (((Below.refl _ _).alloc (Nat.le_refl _) _).alloc (by simp) _).trans (hb.mono (by simp; omega))
  clear hb
  go_wp2
  exact bodyPost_ret (v := .tuple #[.agg #[.int .u64 0, .slice none 0 0, .slice none 0 0], .bool false]) (by simp [results, Try.results20, go_sem, r0, r1, r2]) rfl
    ⟨rfl, ((HB.out.setCell (Nat.le_refl _) _).setCell (Nat.le_refl _) _).setCell (Nat.le_refl _) _⟩

theorem zz_some {H : Type} (la ca na : Option Addr) (gl gc gn n1 cl n3 cc n4 cn pv : Nat) (ep : Int) (m : Option Nat) (L : Nat → Int) (F : Nat → Nat) (S : Nat → ByteArray) (w : World)
    (A : Arg H w la ca na gl gc gn n1 n3 n4 pv m L F S) :
    Calls Try.prog 20 #[.int .u64 ep, .slice la n1 cl, .int .u64 pv, .slice ca n3 cc, .slice na n4 cn, .map m] w fun r w' =>
      ∃ vp vs ps, r = .returned (.tuple #[.agg #[.int .u64 (IntKind.u64.wrap (ep - 1)), vp, vs], .bool true]) ∧ Sub m (nameAt n1 L S) pv ps ∧ w'.ownsRow w.heap.size 9 1 vp ps.length (ps.map Value.string) ∧
        w'.ownsRow w.heap.size 51 3 vs n3 (sc S F (fun i => grp (F i)) n3) ∧ Below w.heap.size w w' := by
  have A' := A.below (((Below.refl w.heap.size w).alloc (Nat.le_refl _) (.cells #[.int .u64 0, .slice none 0 0, .slice none 0 0] 47)).alloc (by simp)
    (.cells #[.int .u64 ep, .int .u64 0, .int .u64 0, .slice ca n3 cc, .slice none 0 0, .slice la n1 cl, .int .u64 pv, .slice none 0 0, .slice none 0 0, .slice none 0 0] 61))
  go_enter Try.func20, Try.ntmps20
  go_wp2_with fail
  refine (last_some (H := H) (w.heap.size + 1) la ca na gl gc gn n1 cl n3 cc n4 cn pv ep m L F S _ ⟨?_, ?_, ?_, ?_, A'.pv1, A'.pv2, A'.n1p, A'.n1b, A'.n34, A'.n4b, A'.inb, A'.ol, A'.oc, A'.on, A'.mp⟩).mono ?_
  · simp
  · simp
  · simp
  · simp
  rintro r w1 ⟨vp, vs, ps, rfl, hsub, ho1, ho2, hb⟩
  clear A'
  obtain ⟨pa, pc, hvp, _⟩ := owns_slice ho1
  obtain ⟨sa, sc', hvs, _⟩ := owns_slice ho2
  have hres := res_block hb
  have r0 : w1.cell? ⟨w.heap.size, 0, none⟩ = some (.int .u64 0) := by rw [cell_of_row w1 _ _ _ _ _ hres]; rfl
  have r1 : w1.cell? ⟨w.heap.size, 1, none⟩ = some (.slice none 0 0) := by rw [cell_of_row w1 _ _ _ _ _ hres]; rfl
  have r2 : w1.cell? ⟨w.heap.size, 2, none⟩ = some (.slice none 0 0) := by rw [cell_of_row w1 _ _ _ _ _ hres]; rfl
  have z : ∀ k, w1.frozen? ⟨w.heap.size, k, none⟩ = false := fun k => frozen_of_row w1 _ _ _ _ hres
  clear hres
  have HB : Hid (Below w.heap.size w w1) := (((Below.refl _ _).alloc (Nat.le_refl _) _).alloc (by simp) _).trans (hb.mono (by simp; omega))
  have H1 : Hid ((((w1.setCell ⟨w.heap.size, 0, none⟩ (.int .u64 (IntKind.u64.wrap (ep - 1)))).setCell ⟨w.heap.size, 1, none⟩ (.slice pa ps.length pc)).setCell ⟨w.heap.size, 2, none⟩ (.slice sa n3 sc')).ownsRow w.heap.size 9 1 (.slice pa ps.length pc) ps.length (ps.map Value.string)) := by
    have := owns_base (owns_put (owns_put (owns_put ho1 (x := w.heap.size) (by simp; omega) 0 (.int .u64 (IntKind.u64.wrap (ep - 1)))) (x := w.heap.size) (by simp; omega) 1 (.slice pa ps.length pc)) (x := w.heap.size) (by simp; omega) 2 (.slice sa n3 sc')) (base' := w.heap.size) (by simp; omega)
    rw [hvp] at this
    exact this
  have H2 : Hid ((((w1.setCell ⟨w.heap.size, 0, none⟩ (.int .u64 (IntKind.u64.wrap (ep - 1)))).setCell ⟨w.heap.size, 1, none⟩ (.slice pa ps.length pc)).setCell ⟨w.heap.size, 2, none⟩ (.slice sa n3 sc')).ownsRow w.heap.size 51 3 (.slice sa n3 sc') n3 (sc S F (fun i => grp (F i)) n3)) := by
    have := owns_base (owns_put (owns_put (owns_put ho2 (x := w.heap.size) (by simp; omega) 0 (.int .u64 (IntKind.u64.wrap (ep - 1)))) (x := w.heap.size) (by simp; omega) 1 (.slice pa ps.length pc)) (x := w.heap.size) (by simp; omega) 2 (.slice sa n3 sc')) (base' := w.heap.size) (by simp; omega)
    rw [hvs] at this
    exact this
  clear hb ho1 ho2
  rw [hvp, hvs]
  clear hvp hvs
  go_wp2
  exact bodyPost_ret (v := .tuple #[.agg #[.int .u64 (IntKind.u64.wrap (ep - 1)), .slice pa ps.length pc, .slice sa n3 sc'], .bool true]) (by simp [results, Try.results20, go_sem, r0, r1, r2]) rfl
    ⟨_, _, ps, rfl, hsub, H1.out, H2.out, ((HB.out.setCell (Nat.le_refl _) _).setCell (Nat.le_refl _) _).setCell (Nat.le_refl _) _⟩
end Go.Proofs.Qxb6602208a
