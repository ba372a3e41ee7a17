import Derived.Test.Qxb6602208aRows
import Derived.Test.Qxb6602208aWalkF
import Derived.Test.Qxb6602208aWalkG
import Derived.Test.Qxb6602208aWalkI
import Derived.Test.Qxb6602208aLedger
import Derived.WalkKit
import Derived.WalkSpells
import Derived.Below
import Derived.WalkSmall
import Derived.Deep.OwnRows
import Derived.Deep.QuietTactic
import Derived.BigQuiet
import Derived.Deep.Light
import Derived.Deep.RegionHeld3
import Derived.Deep.RegionLaw
import Derived.Deep.AppendLies
namespace Go.Proofs.Qxb6602208a
open Go.RowKit

attribute [local go_sem] run_store_float

/-- In the first epoch: nothing. -/
theorem last_zero (lb : Nat) (na : Option Addr) (n4 cn : Nat) (m : Option Nat) (w : World) (h6 : w.cell? ⟨lb, 6, none⟩ = some (.int .u64 0)) :
    Calls Try.prog 24 #[.pointer (some ⟨lb, 0, none⟩), .slice na n4 cn, .map m] w fun r w' =>
      r = .returned (.tuple #[.agg #[.int .u64 0, .slice none 0 0, .slice none 0 0], .bool false]) ∧ Below w.heap.size w w' := by
  have hlb : lb < w.heap.size := World.block_lt_of_cell? _ _ h6
  go_enter Try.func24, Try.ntmps24
  go_wp2
  exact bodyPost_ret (v := .tuple #[.agg #[.int .u64 0, .slice none 0 0, .slice none 0 0], .bool false]) (by simp [results, Try.results24, go_sem]) rfl ⟨rfl, (Below.refl _ _).alloc (Nat.le_refl _) _⟩

/-- What 'last' finds in memory. -/
structure Env (H : Type) (w : World) (lb : Nat) (la ca na : Option Addr) (gl gc gn n1 cl n3 cc n4 pv : Nat) (ep : Int) (m : Option Nat) (L : Nat → Int) (F : Nat → Nat) (S : Nat → ByteArray) : Prop where
  h0 : w.cell? ⟨lb, 0, none⟩ = some (.int .u64 ep)
  h3 : w.cell? ⟨lb, 3, none⟩ = some (.slice ca n3 cc)
  h5 : w.cell? ⟨lb, 5, none⟩ = some (.slice la n1 cl)
  h6 : w.cell? ⟨lb, 6, none⟩ = some (.int .u64 pv)
  pv1 : 0 < pv
  pv2 : pv ≤ 65536
  n1p : 0 < n1
  n1b : n1 ≤ 65536
  n34 : n3 ≤ n4
  n4b : n4 ≤ 65536
  inb : ∀ p : Nat, p < n1 → p < pv → 0 ≤ L p ∧ L p < (n4 : Int)
  ol : Own w la gl n1 (fun i => .int .i64 (L i))
  oc : Own w ca gc n3 (fun i => .float .f64 (F i))
  on : Own w na gn n4 (fun i => .string (S i))
  mp : MapOk H w m

def nameAt (n1 : Nat) (L : Nat → Int) (S : Nat → ByteArray) (j : Nat) : ByteArray := S (L (j % n1)).toNat

theorem Try.info51 : (Try.prog.info? 51).map (fun i => (i.zero, i.size, i.bytes)) = some (some (.agg #[.string ByteArray.empty, .float .f64 0, .int .u8 0]), 3, 32) := by kernel_rfl

set_option maxRecDepth 100000 in
set_option maxHeartbeats 3200000 in
theorem last_some {H : Type} (lb : Nat) (la ca na : Option Addr) (gl gc gn n1 cl n3 cc n4 cn pv : Nat) (ep : Int) (m : Option Nat) (L : Nat → Int) (F : Nat → Nat) (S : Nat → ByteArray) (w : World)
    (E : Env H w lb la ca na gl gc gn n1 cl n3 cc n4 pv ep m L F S) :
    Calls Try.prog 24 #[.pointer (some ⟨lb, 0, none⟩), .slice na n4 cn, .map m] w fun r w' =>
      ∃ vp vs ps, r = .returned (.tuple #[.agg #[.int .u64 (IntKind.u64.wrap (ep - 1)), vp, vs], .bool true]) ∧ Sub m (nameAt n1 L S) pv ps ∧ w'.ownsRow w.heap.size 9 1 vp ps.length (ps.map Value.string) ∧
        w'.ownsRow w.heap.size 51 3 vs n3 (sc S F (fun i => grp (F i)) n3) ∧ Below w.heap.size w w' := by
  have hlb : lb < w.heap.size := World.block_lt_of_cell? _ _ E.h6
  have h0 := E.h0
  have h6 := E.h6
  have pv1 := E.pv1
  have pv2 := E.pv2
  have n1p := E.n1p
  have n1b := E.n1b
  have n4b := E.n4b
  have n34 := E.n34
  have hpz : ((pv : Int) == 0) = false := by
    have : (pv : Int) ≠ 0 := by omega
    simpa using this
  obtain ⟨i9, hi9, hz90, hz91, hz92⟩ := info_parts Try.info9
  obtain ⟨i51, hi51, hz510, hz511, hz512⟩ := info_parts Try.info51
  obtain ⟨fv, hfv⟩ := view_any (IntKind.u64.wrap (ep - 1))
  have HF : Hid (∀ w, Calls Try.prog 25 #[.int .u64 (IntKind.u64.wrap (ep - 1))] w fun r w' => r = .returned (.int .u64 fv) ∧ w = w') := hfv
  clear hfv
  go_enter Try.func24, Try.ntmps24
  go_wp2
  clear h0 h6 hpz
  go_loopw [31] (fun j wr => ∃ (k : Nat) (vp : Value) (ps : List ByteArray), k ≤ pv ∧ j = .int .u64 k ∧ Lp w wr (IntKind.u64.wrap (ep - 1)) vp (.slice none 0 0) ∧
      wr.ownsRow (w.heap.size + 2) 9 1 vp ps.length (ps.map Value.string) ∧ Sub m (nameAt n1 L S) k ps) (fun j _ => pv - (intOf j).toNat)
  case atStart => exact ⟨0, .slice none 0 0, [], Nat.zero_le _, rfl, Lp.start w _, World.ownsRow_nil _ _ _ _, Sub.zero _ _⟩
  case round =>
    obtain ⟨k, vp, ps, hk, rfl, hL, hown, hsub⟩ := hrel
    by_cases hlt : k < pv
    · have hkz : (k : Int) < (pv : Int) := by omega
      have hmod : k % n1 < n1 := Nat.mod_lt _ n1p
      have hmk : k % n1 ≤ k := Nat.mod_le _ _
      obtain ⟨hi0, hi1⟩ := E.inb (k % n1) hmod (by omega)
      obtain ⟨ix, hix⟩ : ∃ ix : Nat, L (k % n1) = (ix : Int) := ⟨(L (k % n1)).toNat, by omega⟩
      have hixn : ix < n4 := by omega
      have hla := E.ol.1 n1p
      have hna := E.on.1 (by omega)
      subst hla
      subst hna
      have c5 : wr.cell? ⟨lb, 5, none⟩ = some (.slice (some ⟨gl, 0, none⟩) n1 cl) := (hL.below.cell (p := ⟨lb, 5, none⟩) hlb).trans E.h5
      have hgl : gl < w.heap.size := World.block_lt_of_cell? _ _ (E.ol.2 _ hmod)
      have hgn : gn < w.heap.size := World.block_lt_of_cell? _ _ (E.on.2 _ hixn)
      have ce : wr.cell? ⟨gl, k % n1, none⟩ = some (.int .i64 ix) := by rw [hL.below.cell (p := ⟨gl, k % n1, none⟩) hgl, E.ol.2 _ hmod]; exact congrArg (fun z => some (Value.int .i64 z)) hix
      have cs : wr.cell? ⟨gn, ix, none⟩ = some (.string (S ix)) := (hL.below.cell (p := ⟨gn, ix, none⟩) hgn).trans (E.on.2 _ hixn)
      have e1 : ((k : Int) % (n1 : Int)).toNat = k % n1 := by omega
      have e2 : (k : Int) % (n1 : Int) < (n1 : Int) := Int.emod_lt_of_pos _ (by omega)
      have e3 : (0 : Int) ≤ (k : Int) % (n1 : Int) := Int.emod_nonneg _ (by omega)
      have HX : Hid (nameAt n1 L S k = S ix) := by show S (L (k % n1)).toNat = S ix; rw [hix]; rfl
      have HI : Hid (L (k % n1) = (ix : Int)) := hix
      clear hix hi0 hi1
      go_wp2
      go_quiet (fail)
      have hwi : (Lit.int .i64 (ix : Int)).wf = true := WalkArith.wf_i64 (by omega)
      have hM : MapOk H (wr.drewN nq) m := E.mp.below (below_drewN hL.below nq) (fun b e => E.mp.lt e)
      have hL' := hL.drewN nq
      have hown' : (wr.drewN nq).ownsRow (w.heap.size + 2) 9 1 vp ps.length (ps.map Value.string) := hown
      have cs' : (wr.drewN nq).cell? ⟨gn, ix, none⟩ = some (.string (S ix)) := cs
      clear hL hown cs c5 ce
      generalize wr.drewN nq = wq at hM hL' hown' cs' ⊢
      obtain ⟨v, ok, hnone, _, hrun⟩ := hM.look Try.underlying63 hwi
      have c0 := hL'.c0
      have c1 := hL'.c1
      have f1 := hL'.fz 1
      have hsz := hL'.size
      have f1a : ∀ o, (wq.alloc o).frozen? ⟨w.heap.size + 1, 1, none⟩ = false := fun o => by rw [World.frozen?_alloc_old _ _ _ (by show w.heap.size + 1 ≠ wq.heap.size; omega)]; exact f1
      have c1a : ∀ o, (wq.alloc o).cell? ⟨w.heap.size + 1, 1, none⟩ = some vp := fun o => by rw [World.cell?_alloc_old _ _ _ (by show w.heap.size + 1 ≠ wq.heap.size; omega)]; exact c1
      have hpl := hsub.len
      have ag : vp.ownBlock ≠ some (w.heap.size + 1) := fun e => by have := hown'.lt _ e; omega
      have an : vp.ownBlock ≠ some gn := fun e => by have := hown'.lt _ e; omega
      cases ok
      · go_wp2_with fail
        go_region_law ((refine step_append_lies _ (by rfl) _ _ _ (by rfl) (w.heap.size + 2) 9 i9 _ 1 16 Try.underlying37 hi9 hz90 hz91 hz92 rfl (by omega) vp ps.length (ps.map Value.string) (by rfl) ((hown'.alloc _).drew) ⟨wq.heap.size, 0, none⟩ 1 1 [.string (S ix)] (by rfl) (by rfl) (World.news_of_block (cs := #[.string (S ix)]) (t := 9) (fr := (0, 0)) (heap_alloc_new wq _)) (by simp [Value.oneCell']) (by omega) (by unfold maxLen; omega) (by omega) (by simp; omega) (wq.heap.size + 1) (by simp) ?_; intro gg cap w1 hown1 hgrow hat hglt; have c1w : w1.cell? ⟨w.heap.size + 1, 1, none⟩ = some vp := (hgrow.cell_far _ (by simp; omega) (Ne.symm ag)).trans (c1a _); have f1w : w1.frozen? ⟨w.heap.size + 1, 1, none⟩ = false := (hgrow.frozen_far _ (by simp; omega) (Ne.symm ag)).trans (f1a _)))
        all_goals go_wp2
        all_goals
          have R := keep1 hL' hown' hown1 hgrow
          clear hown1 hgrow hrun hL' hown' c0 c1 f1 f1a c1a cs'
          go_roundw
          case rel => exact ⟨k + 1, _, ps ++ [S ix], by omega, by go_num, R.1, R.2, by have := hsub.take; rw [HX.out] at this; exact this⟩
          case measure => simp [intOf]; omega
      · have hmne : m ≠ none := fun e => by have := hnone e; cases this
        by_cases htest : v < IntKind.u64.wrap (fv + (k : Int))
        · go_wp2_with (go_at_call 25; refine (HF.out _).mono ?_; rintro e w' ⟨rfl, rfl⟩)
          clear hrun c0 c1 f1 f1a c1a cs'
          go_roundw
          case rel => exact ⟨k + 1, vp, ps, by omega, by go_num, hL', hown', hsub.drop hmne⟩
          case measure => simp [intOf]; omega
        · go_wp2_with (go_at_call 25; refine (HF.out _).mono ?_; rintro e w' ⟨rfl, rfl⟩)
          go_region_law ((refine step_append_lies _ (by rfl) _ _ _ (by rfl) (w.heap.size + 2) 9 i9 _ 1 16 Try.underlying37 hi9 hz90 hz91 hz92 rfl (by omega) vp ps.length (ps.map Value.string) (by rfl) ((hown'.alloc _).drew) ⟨wq.heap.size, 0, none⟩ 1 1 [.string (S ix)] (by rfl) (by rfl) (World.news_of_block (cs := #[.string (S ix)]) (t := 9) (fr := (0, 0)) (heap_alloc_new wq _)) (by simp [Value.oneCell']) (by omega) (by unfold maxLen; omega) (by omega) (by simp; omega) (wq.heap.size + 1) (by simp) ?_; intro gg cap w1 hown1 hgrow hat hglt; have c1w : w1.cell? ⟨w.heap.size + 1, 1, none⟩ = some vp := (hgrow.cell_far _ (by simp; omega) (Ne.symm ag)).trans (c1a _); have f1w : w1.frozen? ⟨w.heap.size + 1, 1, none⟩ = false := (hgrow.frozen_far _ (by simp; omega) (Ne.symm ag)).trans (f1a _)))
          all_goals go_wp2
          all_goals
            have R := keep1 hL' hown' hown1 hgrow
            clear hown1 hgrow hrun hL' hown' c0 c1 f1 f1a c1a cs'
            go_roundw
            case rel => exact ⟨k + 1, _, ps ++ [S ix], by omega, by go_num, R.1, R.2, by have := hsub.take; rw [HX.out] at this; exact this⟩
            case measure => simp [intOf]; omega
    · rename World => w2
      have hkz : ¬ (k : Int) < (pv : Int) := by omega
      obtain rfl : k = pv := by omega
      have hr2 := hL.size
      have c3 : w2.cell? ⟨lb, 3, none⟩ = some (.slice ca n3 cc) := (hL.below.cell (p := ⟨lb, 3, none⟩) hlb).trans E.h3
      go_wp2
      clear c3
      go_loopw [79] (fun i wx => ∃ (q : Nat) (vs : Value), q ≤ n3 ∧ i = .int .i64 q ∧ Lp w wx (IntKind.u64.wrap (ep - 1)) vp vs ∧ wx.ownsRow w2.heap.size 51 3 vs q (sc S F (fun i => grp (F i)) q) ∧ Old (w.heap.size + 1) w2 wx) (fun i _ => n3 - (intOf i).toNat)
      case atStart => exact ⟨0, .slice none 0 0, Nat.zero_le _, rfl, hL, World.ownsRow_nil _ _ _ _, Old.refl _ _⟩
      case round =>
        obtain ⟨q, vs, hq, rfl, hL2, hown2, hO⟩ := hrel
        by_cases hql : q < n3
        · have hqz : (q : Int) < (n3 : Int) := by omega
          have hca := E.oc.1 (by omega)
          have hna := E.on.1 (by omega)
          subst hca
          subst hna
          have hgc : gc < w.heap.size := World.block_lt_of_cell? _ _ (E.oc.2 _ hql)
          have hgn : gn < w.heap.size := World.block_lt_of_cell? _ _ (E.on.2 q (by omega))
          have cf : wr.cell? ⟨gc, q, none⟩ = some (.float .f64 (F q)) := (hL2.below.cell (p := ⟨gc, q, none⟩) hgc).trans (E.oc.2 _ hql)
          have cs : wr.cell? ⟨gn, q, none⟩ = some (.string (S q)) := (hL2.below.cell (p := ⟨gn, q, none⟩) hgn).trans (E.on.2 q (by omega))
          have hqn : (q : Int) < (n4 : Int) := by omega
          have c2 := hL2.c2
          have f2 := hL2.fz 2
          have hsz := hL2.size
          have hos := hO.size
          have f2a : ∀ o, (wr.alloc o).frozen? ⟨w.heap.size + 1, 2, none⟩ = false := fun o => by rw [World.frozen?_alloc_old _ _ _ (by show w.heap.size + 1 ≠ wr.heap.size; omega)]; exact f2
          have c2a : ∀ o, (wr.alloc o).cell? ⟨w.heap.size + 1, 2, none⟩ = some vs := fun o => by rw [World.cell?_alloc_old _ _ _ (by show w.heap.size + 1 ≠ wr.heap.size; omega)]; exact c2
          have ag : vs.ownBlock ≠ some (w.heap.size + 1) := fun e => by have := hown2.lt _ e; omega
          go_wp2_with fail
          go_region_law (first | (refine step_append_lies _ (by rfl) _ _ _ (by rfl) w2.heap.size 51 i51 _ 3 32 Try.underlying45 hi51 hz510 hz511 hz512 rfl (by omega) vs q (sc S F (fun i => grp (F i)) q) (by rfl) ((hown2.alloc _).drew) ⟨wr.heap.size, 0, none⟩ 1 1 [.string (S q), .float .f64 (F q), .int .u8 (grp (F q))] (by rfl) (by rfl) (World.news_of_block (cs := #[.string (S q), .float .f64 (F q), .int .u8 (grp (F q))]) (t := 51) (fr := (0, 0)) (heap_alloc_new wr _)) (by simp [Value.oneCell']) (by omega) (by unfold maxLen; omega) (by omega) (by simp; omega) (wr.heap.size + 1) (by simp) ?_; intro gg cap w1 hown1 hgrow hat hglt; have c2w : w1.cell? ⟨w.heap.size + 1, 2, none⟩ = some vs := (hgrow.cell_far _ (by simp; omega) (Ne.symm ag)).trans (c2a _); have f2w : w1.frozen? ⟨w.heap.size + 1, 2, none⟩ = false := (hgrow.frozen_far _ (by simp; omega) (Ne.symm ag)).trans (f2a _)) | (go_simp; go_at_call 22; refine (group_any _ _).mono ?_; rintro e w' ⟨rfl, rfl⟩))
          all_goals go_wp2
          all_goals
            have R := keep2 hL2 hO hr2 hown2 hown1 hgrow
            clear hown1 hgrow hL2 hown2 c2 f2 f2a c2a cs cf
            go_roundw
            case rel => exact ⟨q + 1, _, by omega, by go_num, R.1, R.2.1, R.2.2⟩
            case measure => simp [intOf]; omega
        · have hqz : ¬ (q : Int) < (n3 : Int) := by omega
          obtain rfl : q = n3 := by omega
          obtain ⟨pa, pc, hvp, _⟩ := owns_slice hown
          obtain ⟨sa, sc', hvs, _⟩ := owns_slice hown2
          have HP := hO.owns hown (by omega)
          have c0 := hL2.c0
          have c1 : wr.cell? ⟨w.heap.size + 1, 1, none⟩ = some (.slice pa ps.length pc) := by rw [hL2.c1, hvp]
          have c2 : wr.cell? ⟨w.heap.size + 1, 2, none⟩ = some (.slice sa q sc') := by rw [hL2.c2, hvs]
          have HVP : Hid (vp = .slice pa ps.length pc) := hvp
          have HVS : Hid (vs = .slice sa q sc') := hvs
          clear hvp hvs
          have r0 : wr.cell? ⟨w.heap.size, 0, none⟩ = some (.int .u64 0) := by rw [cell_of_row wr _ _ _ _ _ hL2.res]; rfl
          have r1 : wr.cell? ⟨w.heap.size, 1, none⟩ = some (.slice none 0 0) := by rw [cell_of_row wr _ _ _ _ _ hL2.res]; rfl
          have r2 : wr.cell? ⟨w.heap.size, 2, none⟩ = some (.slice none 0 0) := by rw [cell_of_row wr _ _ _ _ _ hL2.res]; rfl
          have z : ∀ k, wr.frozen? ⟨w.heap.size, k, none⟩ = false := fun k => frozen_of_row wr _ _ _ _ hL2.res
          go_wp2
          have HO1 : (((wr.setCell ⟨w.heap.size, 0, none⟩ (.int .u64 (IntKind.u64.wrap (ep - 1)))).setCell ⟨w.heap.size, 1, none⟩ (.slice pa ps.length pc)).setCell ⟨w.heap.size, 2, none⟩ (.slice sa q sc')).ownsRow w.heap.size 9 1 (.slice pa ps.length pc) ps.length (ps.map Value.string) := by
            have := owns_base (owns_put (owns_put (owns_put HP (x := w.heap.size) (by omega) 0 (.int .u64 (IntKind.u64.wrap (ep - 1)))) (x := w.heap.size) (by omega) 1 (.slice pa ps.length pc)) (x := w.heap.size) (by omega) 2 (.slice sa q sc')) (base' := w.heap.size) (by omega)
            rw [HVP.out] at this
            exact this
          have HO2 : (((wr.setCell ⟨w.heap.size, 0, none⟩ (.int .u64 (IntKind.u64.wrap (ep - 1)))).setCell ⟨w.heap.size, 1, none⟩ (.slice pa ps.length pc)).setCell ⟨w.heap.size, 2, none⟩ (.slice sa q sc')).ownsRow w.heap.size 51 3 (.slice sa q sc') q (sc S F (fun i => grp (F i)) q) := by
            have := owns_base (owns_put (owns_put (owns_put hown2 (x := w.heap.size) (by omega) 0 (.int .u64 (IntKind.u64.wrap (ep - 1)))) (x := w.heap.size) (by omega) 1 (.slice pa ps.length pc)) (x := w.heap.size) (by omega) 2 (.slice sa q sc')) (base' := w.heap.size) (by omega)
            rw [HVS.out] at this
            exact this
          exact bodyPost_ret (v := .tuple #[.agg #[.int .u64 (IntKind.u64.wrap (ep - 1)), .slice pa ps.length pc, .slice sa q sc'], .bool true]) (by simp [results, Try.results24, go_sem, r0, r1, r2]) rfl
            ⟨_, _, rfl, ps, hsub, HO1, HO2, ((hL2.below.setCell (Nat.le_refl _) _).setCell (Nat.le_refl _) _).setCell (Nat.le_refl _) _⟩
end Go.Proofs.Qxb6602208a
