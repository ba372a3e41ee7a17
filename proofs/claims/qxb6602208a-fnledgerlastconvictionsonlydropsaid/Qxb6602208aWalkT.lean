import Derived.Test.Qxb6602208aRows
import Derived.Test.Qxb6602208aWalkH
import Derived.Test.Qxb6602208aWalkZ
import Derived.WalkKit
import Derived.WalkSpells
import Derived.Below
import Derived.WalkSmall
import Derived.Deep.QuietTactic
import Derived.BigQuiet
import Derived.Deep.Light
namespace Go.Proofs.Qxb6602208a
open Go.RowKit

attribute [local go_sem] run_store_float

/-- A row of strings that was gathered, read by index. -/
theorem owns_own {w : World} {base : Nat} {a : Option Addr} {c : Nat} {ps : List ByteArray} (h : w.ownsRow base 9 1 (.slice a ps.length c) ps.length (ps.map Value.string)) :
    ∃ g, Own w a g ps.length (fun i => .string (ps.getD i ByteArray.empty)) := by
  by_cases hp : 0 < ps.length
  · obtain ⟨g, cap, hv, _, _⟩ := h.form hp
    simp only [Value.slice.injEq, true_and] at hv
    obtain ⟨rfl, rfl⟩ := hv
    refine ⟨g, fun _ => rfl, fun i hi => ?_⟩
    rw [h.cellAt i (by omega)]
    simp [hi]
  · exact ⟨0, fun h => absurd h hp, fun i hi => absurd hi (by omega)⟩

/-- The standings, read by index. -/
def Own3 (w : World) (a : Option Addr) (g n : Nat) (S : Nat → ByteArray) (F : Nat → Nat) : Prop :=
  (0 < n → a = some ⟨g, 0, none⟩) ∧ ∀ i, i < n → w.cell? ⟨g, i * 3, none⟩ = some (.string (S i)) ∧ w.cell? ⟨g, i * 3 + 1, none⟩ = some (.float .f64 (F i)) ∧ w.cell? ⟨g, i * 3 + 2, none⟩ = some (.int .u8 (grp (F i)))

theorem owns_own3 {w : World} {base : Nat} {a : Option Addr} {n c : Nat} {S : Nat → ByteArray} {F : Nat → Nat} (h : w.ownsRow base 51 3 (.slice a n c) n (sc S F (fun i => grp (F i)) n)) : ∃ g, Own3 w a g n S F := by
  by_cases hp : 0 < n
  · obtain ⟨g, cap, hv, _, _⟩ := h.form hp
    simp only [Value.slice.injEq, true_and] at hv
    obtain ⟨rfl, rfl⟩ := hv
    refine ⟨g, fun _ => rfl, fun i hi => ?_⟩
    obtain ⟨h1, h2, h3⟩ := sc_at S F (fun i => grp (F i)) n i hi
    exact ⟨by rw [h.cellAt _ (by omega)]; exact h1, by rw [h.cellAt _ (by omega)]; exact h2, by rw [h.cellAt _ (by omega)]; exact h3⟩
  · exact ⟨0, fun h => absurd h hp, fun i hi => absurd hi (by omega)⟩

theorem Own3.below {w w' : World} {a : Option Addr} {g n : Nat} {S : Nat → ByteArray} {F : Nat → Nat} (h : Own3 w a g n S F) (hb : Below w.heap.size w w') : Own3 w' a g n S F :=
  ⟨h.1, fun i hi => ⟨(hb.cell (p := ⟨g, i * 3, none⟩) (World.block_lt_of_cell? _ _ (h.2 i hi).1)).trans (h.2 i hi).1, (hb.cell (p := ⟨g, i * 3 + 1, none⟩) (World.block_lt_of_cell? _ _ (h.2 i hi).2.1)).trans (h.2 i hi).2.1,
    (hb.cell (p := ⟨g, i * 3 + 2, none⟩) (World.block_lt_of_cell? _ _ (h.2 i hi).2.2)).trans (h.2 i hi).2.2⟩⟩

theorem str_eq {a b : ByteArray} (h : a.toList = b.toList) : a = b := by
  rw [ByteArray.toList_eq, ByteArray.toList_eq] at h
  exact ByteArray.ext (Array.toList_inj.1 h)

/-- The block of 'with', behind the second call and with the block of 'free' laid. -/
theorem with_cells {w5 w6 : World} {c0 c1 c2 : Value} (hb : Below (w5.alloc (.cells #[c0, c1, c2] 47)).heap.size (w5.alloc (.cells #[c0, c1, c2] 47)) w6) :
    w5.heap.size < w6.heap.size ∧ ∀ o, (w6.alloc o).cell? ⟨w5.heap.size, 0, none⟩ = some c0 ∧ (w6.alloc o).cell? ⟨w5.heap.size, 1, none⟩ = some c1 ∧ (w6.alloc o).cell? ⟨w5.heap.size, 2, none⟩ = some c2 := by
  have hlt : w5.heap.size < w6.heap.size := by have := hb.size; simp at this; omega
  have hh : w6.heap[w5.heap.size]? = some (.cells #[c0, c1, c2] 47 (0, 0)) := by
    rw [hb.block w5.heap.size (by simp)]
    exact heap_alloc_new w5 _
  refine ⟨hlt, fun o => ?_⟩
  refine ⟨?_, ?_, ?_⟩
  · rw [World.cell?_alloc_old _ _ _ (by show w5.heap.size ≠ w6.heap.size; omega), cell_of_row w6 _ _ _ _ _ hh]; rfl
  · rw [World.cell?_alloc_old _ _ _ (by show w5.heap.size ≠ w6.heap.size; omega), cell_of_row w6 _ _ _ _ _ hh]; rfl
  · rw [World.cell?_alloc_old _ _ _ (by show w5.heap.size ≠ w6.heap.size; omega), cell_of_row w6 _ _ _ _ _ hh]; rfl

set_option maxRecDepth 100000 in
set_option maxHeartbeats 3200000 in
theorem walk_all {H : Type} (ep : Int) (a1 : Option Addr) (n1 c1 : Nat) (pv : Int) (a3 : Option Addr) (n3 c3 : Nat) (a4 : Option Addr) (n4 c4 : Nat) (m : Option Nat) (L : Nat → Int) (F : Nat → Nat) (S : Nat → ByteArray) (w : World)
    (h1 : n1 ≤ maxLen) (h3 : n3 ≤ maxLen) (h4 : n4 ≤ maxLen) (hpv : 0 ≤ pv) (hS : ∀ i, i < n4 → (S i).size ≤ maxLen)
    (v1 : View w a1 n1 c1 (fun i => .int .i64 (L i))) (v3 : View w a3 n3 c3 (fun i => .float .f64 (F i))) (v4 : View w a4 n4 c4 (fun i => .string (S i))) (hm : MapOk H w m) :
    Calls Try.prog 6 #[.int .u64 ep, .slice a1 n1 c1, .int .u64 pv, .slice a3 n3 c3, .slice a4 n4 c4, .map m] w fun e w' => e = .returned (.bool true) ∧ Below w.heap.size w w' := by
  obtain ⟨ml, hml, hlen⟩ := hm.len
  go_enter Try.func6, Try.ntmps6
  go_wp2_with fail
  refine (big_any a1 a3 a4 n1 c1 n3 c3 n4 c4 m ml S w h1 h3 h4 hS v4 hlen hml).mono ?_
  rintro e w' ⟨hB, rfl⟩
  clear hlen h1 h3 h4 hS hml
  rcases hB with rfl | ⟨rfl, b1, b3, b4⟩
  · go_wp2
    go_ret
    exact ⟨rfl, Below.refl _ _⟩
  go_wp2_with fail
  refine (dom_any a1 a3 a4 n1 c1 n3 c3 n4 c4 pv L w b1 b3 b4 hpv v1).mono ?_
  rintro e w' ⟨hB, rfl⟩
  rcases hB with rfl | ⟨rfl, hp2, hdom⟩
  · go_wp2
    go_ret
    exact ⟨rfl, Below.refl _ _⟩
  obtain ⟨pn, rfl⟩ : ∃ pn : Nat, pv = (pn : Int) := ⟨pv.toNat, by omega⟩
  have HD : Hid ((pn : Int) = 0 ∨ (0 < n1 ∧ n3 ≤ n4 ∧ ∀ p : Nat, p < n1 → (p : Int) < (pn : Int) → 0 ≤ L p ∧ L p < (n4 : Int))) := hdom
  clear hdom
  go_wp2_with fail
  refine (clone16_any a1 n1 c1 L w b1 v1).mono ?_
  rintro e w1 ⟨la, rfl, ol, hb1⟩
  have ov : ∀ {a : Option Addr} {n c : Nat} {f : Nat → Value}, View w a n c f → View w1 a n c f := fun {a n c f} h => by
    rcases h with h | ⟨x, b, o, h1, h2, h3⟩
    · exact .inl h
    · exact .inr ⟨x, b, o, h1, h2, fun i hi => (hb1.cell (p := ⟨b, o + i, none⟩) (World.block_lt_of_cell? _ _ (h3 i hi))).trans (h3 i hi)⟩
  have v3' := ov v3
  have v4' := ov v4
  have hm1 := hm.below hb1 (fun _ e => hm.lt e)
  clear ov v1 v3 v4
  go_wp2_with fail
  refine (clone17_any a3 n3 c3 F w1 b3 v3').mono ?_
  rintro e w2 ⟨ca, rfl, oc, hb2⟩
  go_wp2_with fail
  refine (conv_any (H := H) m n4 w2 b4 (hm1.below hb2 (fun _ e => hm1.lt e))).mono ?_
  rintro e w3 ⟨m', rfl, hm3, hb3⟩
  have v4'' : View w3 a4 n4 c4 (fun i => .string (S i)) := by
    rcases v4' with h | ⟨x, b, o, h1, h2, h3⟩
    · exact .inl h
    · refine .inr ⟨x, b, o, h1, h2, fun i hi => ?_⟩
      have hlt := World.block_lt_of_cell? _ _ (h3 i hi)
      rw [hb3.cell (p := ⟨b, o + i, none⟩) (Nat.lt_of_lt_of_le hlt hb2.size), hb2.cell (p := ⟨b, o + i, none⟩) hlt]
      exact h3 i hi
  clear v3' v4'
  go_wp2_with fail
  refine (clone19_any a4 n4 c4 S w3 b4 v4'').mono ?_
  rintro e w4 ⟨na, rfl, on, hb4⟩
  clear v4''
  have ol4 := ((ol.below hb2).below hb3).below hb4
  have oc4 := (oc.below hb3).below hb4
  have hm4 := hm3.below hb4 (fun _ e => hm3.lt e)
  have hB4 : Below w.heap.size w w4 := ((hb1.trans (hb2.mono hb1.size)).trans (hb3.mono (Nat.le_trans hb1.size hb2.size))).trans (hb4.mono (Nat.le_trans hb1.size (Nat.le_trans hb2.size hb3.size)))
  clear hm hm1 hm3 ol oc hb1 hb2 hb3 hb4
  go_wp2_with fail
  by_cases hz : pn = 0
  · subst hz
    refine (zz_zero la ca na n1 n1 n3 n3 n4 n4 ep m' w4).mono ?_
    rintro r w5 ⟨rfl, hb5⟩
    go_wp2_with fail
    refine (zz_zero la ca na n1 n1 n3 n3 n4 n4 ep none _).mono ?_
    rintro r w6 ⟨rfl, hb6⟩
    obtain ⟨hlt, hcs⟩ := with_cells hb6
    have x0 := fun o => (hcs o).1
    have x1 := fun o => (hcs o).2.1
    have x2 := fun o => (hcs o).2.2
    have HB : Hid (Below w.heap.size w w6) := ((hB4.trans (hb5.mono hB4.size)).alloc (Nat.le_trans hB4.size hb5.size) _).trans (hb6.mono (by have := hB4.size; have := hb5.size; simp; omega))
    clear hcs hb6 hb5 hB4
    go_wp2
    refine wp_loop_rounds 1 ?_; rw [rounds_succ]
    go_wp2
    refine wp_loop_rounds 1 ?_; rw [rounds_succ]
    go_wp2
    go_ret
    exact ⟨rfl, HB.out.alloc (by have := HB.out.size; omega) _⟩
  · obtain ⟨hn1, hn34, hin⟩ : 0 < n1 ∧ n3 ≤ n4 ∧ ∀ p : Nat, p < n1 → (p : Int) < (pn : Int) → 0 ≤ L p ∧ L p < (n4 : Int) := by
      rcases HD.out with h | h
      · exact absurd h (by omega)
      · exact h
    have A : Arg H w4 la ca na w.heap.size w1.heap.size w3.heap.size n1 n3 n4 pn m' L F S := ⟨by omega, by omega, hn1, b1, hn34, b4, fun p h1 h2 => hin p h1 (by omega), ol4, oc4, on, hm4⟩
    clear hin HD ol4 oc4 on hm4
    refine (zz_some (H := H) la ca na w.heap.size w1.heap.size w3.heap.size n1 n1 n3 n3 n4 n4 pn ep m' L F S w4 A).mono ?_
    rintro r w5 ⟨vp, vs, ps, rfl, hsub, ho1, ho2, hb5⟩
    obtain ⟨pa, pc, hvp, _⟩ := owns_slice ho1
    obtain ⟨sa, sc', hvs, _⟩ := owns_slice ho2
    rw [hvp] at ho1
    rw [hvs] at ho2
    rw [hvp, hvs]
    clear hvp hvs vp vs
    obtain ⟨g1, own1⟩ := owns_own ho1
    obtain ⟨k1, owk1⟩ := owns_own3 ho2
    clear ho1 ho2
    go_wp2_with fail
    have A6 := (A.below hb5).below ((Below.refl w5.heap.size w5).alloc (Nat.le_refl _) (.cells #[.int .u64 (IntKind.u64.wrap (ep - 1)), .slice pa ps.length pc, .slice sa n3 sc'] 47))
    refine (zz_some (H := H) la ca na w.heap.size w1.heap.size w3.heap.size n1 n1 n3 n3 n4 n4 pn ep none L F S _ A6.nomap).mono ?_
    rintro r w6 ⟨vp, vs, fs, rfl, hsub2, ho1, ho2, hb6⟩
    clear A A6
    obtain ⟨fa, fc, hvp, _⟩ := owns_slice ho1
    obtain ⟨ta, tc, hvs, _⟩ := owns_slice ho2
    rw [hvp] at ho1
    rw [hvs] at ho2
    rw [hvp, hvs]
    clear hvp hvs vp vs
    obtain ⟨g2, own2⟩ := owns_own ho1
    obtain ⟨k2, owk2⟩ := owns_own3 ho2
    clear ho1 ho2
    obtain ⟨hlt, hcs⟩ := with_cells hb6
    have x0 := fun o => (hcs o).1
    have x1 := fun o => (hcs o).2.1
    have x2 := fun o => (hcs o).2.2
    have HB : Hid (Below w.heap.size w w6) := ((hB4.trans (hb5.mono hB4.size)).alloc (Nat.le_trans hB4.size hb5.size) _).trans (hb6.mono (by have := hB4.size; have := hb5.size; simp; omega))
    have hb56 : Below w5.heap.size w5 w6 := ((Below.refl _ _).alloc (Nat.le_refl _) _).trans (hb6.mono (by simp))
    have own1' := own1.below hb56
    have owk1' := owk1.below hb56
    have hfs : fs.length = pn := by rw [hsub2.2 rfl]; simp
    have hpl := hsub.len
    have hss : ps.Sublist fs := by rw [hsub2.2 rfl]; exact hsub.1
    clear hcs hb6 hb5 hB4 hb56 own1 owk1 hsub hsub2
    rw [hfs] at own2
    have HFS : Hid (fs.length = pn) := hfs
    have HSS : Hid (ps.Sublist fs) := hss
    clear hss
    rw [hfs]
    clear hfs
    go_wp2
    have hb8 : Below w6.heap.size w6 (w6.alloc (.cells #[.int .u64 (IntKind.u64.wrap (ep - 1)), .slice fa pn fc, .slice ta n3 tc] 47)) := (Below.refl _ _).alloc (Nat.le_refl _) _
    have own1 := own1'.below hb8
    have owk1 := owk1'.below hb8
    have own2' := own2.below hb8
    have owk2' := owk2.below hb8
    have HB8 : Hid (Below w.heap.size w (w6.alloc (.cells #[.int .u64 (IntKind.u64.wrap (ep - 1)), .slice fa pn fc, .slice ta n3 tc] 47))) := HB.out.alloc HB.out.size _
    have hlt8 : w6.heap.size < (w6.alloc (.cells #[.int .u64 (IntKind.u64.wrap (ep - 1)), .slice fa pn fc, .slice ta n3 tc] 47)).heap.size := by simp
    have y1 : (w6.alloc (.cells #[.int .u64 (IntKind.u64.wrap (ep - 1)), .slice fa pn fc, .slice ta n3 tc] 47)).cell? ⟨w6.heap.size, 1, none⟩ = some (.slice fa pn fc) := by simp
    have y2 : (w6.alloc (.cells #[.int .u64 (IntKind.u64.wrap (ep - 1)), .slice fa pn fc, .slice ta n3 tc] 47)).cell? ⟨w6.heap.size, 2, none⟩ = some (.slice ta n3 tc) := by simp
    have x1' := x1 (.cells #[.int .u64 (IntKind.u64.wrap (ep - 1)), .slice fa pn fc, .slice ta n3 tc] 47)
    have x2' := x2 (.cells #[.int .u64 (IntKind.u64.wrap (ep - 1)), .slice fa pn fc, .slice ta n3 tc] 47)
    clear own1' owk1' own2 owk2 x0 x1 x2 hb8 HB
    generalize w6.alloc (.cells #[.int .u64 (IntKind.u64.wrap (ep - 1)), .slice fa pn fc, .slice ta n3 tc] 47) = w8 at own1 owk1 own2' owk2' HB8 hlt8 y1 y2 x1' x2' ⊢
    generalize w6.heap.size = bF at hlt hlt8 y1 y2 ⊢
    generalize w5.heap.size = bW at hlt x1' x2' ⊢
    go_loopw [17, 18] (fun kk ii wr => ∃ k i q : Nat, k ≤ ps.length ∧ i ≤ pn ∧ kk = .int .i64 k ∧ ii = .int .i64 i ∧ wr = w8.drewN q ∧ (ps.drop k).Sublist (fs.drop i)) (fun _ ii _ => pn - (intOf ii).toNat)
    case atStart => exact ⟨0, 0, 0, Nat.zero_le _, Nat.zero_le _, rfl, rfl, rfl, HSS.out⟩
    case round =>
      obtain ⟨k, i, q, hk, hi, rfl, rfl, rfl, hsu⟩ := hrel
      have HSU : Hid ((ps.drop k).Sublist (fs.drop i)) := hsu
      clear hsu
      by_cases hin : i < pn
      · have hinz : (i : Int) < (pn : Int) := by omega
        by_cases hkn : k < ps.length
        · have hknz : (k : Int) < (ps.length : Int) := by omega
          obtain rfl := own1.1 (by omega)
          obtain rfl := own2'.1 (by omega)
          have ci := own2'.2 i hin
          have ck := own1.2 k hkn
          obtain ⟨sx, hsx⟩ : ∃ sx, fs.getD i ByteArray.empty = sx := ⟨_, rfl⟩
          obtain ⟨sy, hsy⟩ : ∃ sy, ps.getD k ByteArray.empty = sy := ⟨_, rfl⟩
          have ci' : w8.cell? ⟨g2, i, none⟩ = some (.string sx) := by rw [ci]; exact congrArg (fun z => some (Value.string z)) hsx
          have ck' : w8.cell? ⟨g1, k, none⟩ = some (.string sy) := by rw [ck]; exact congrArg (fun z => some (Value.string z)) hsy
          have HX : Hid (fs.getD i ByteArray.empty = sx) := hsx
          have HY : Hid (ps.getD k ByteArray.empty = sy) := hsy
          clear ci ck hsx hsy
          by_cases hxy : sx = sy
          · have hcmp : (sx.toList == sy.toList) = true := by rw [hxy]; simp
            have R : Hid ((ps.drop (k + 1)).Sublist (fs.drop (i + 1))) := sub_step_eq (by rw [HFS.out]; exact hin) hkn HSU.out (by rw [HX.out, HY.out]; exact hxy)
            clear hxy
            go_wp2
            go_quiet (fail)
            go_wp2
            go_roundw
            case rel => exact ⟨k + 1, i + 1, _, by omega, by omega, by go_num, by go_num, rfl, R.out⟩
            case measure => simp [intOf]; omega
          · have hcmp : (sx.toList == sy.toList) = false := by
              have : ¬ sx.toList = sy.toList := fun e => hxy (str_eq e)
              simpa using this
            have R : Hid ((ps.drop k).Sublist (fs.drop (i + 1))) := sub_step_ne (by rw [HFS.out]; exact hin) hkn HSU.out (by rw [HX.out, HY.out]; exact hxy)
            clear hxy
            go_wp2
            go_quiet (fail)
            go_wp2
            go_roundw
            case rel => exact ⟨k, i + 1, _, by omega, by omega, rfl, by go_num, rfl, R.out⟩
            case measure => simp [intOf]; omega
        · have hknz : ¬ (k : Int) < (ps.length : Int) := by omega
          obtain rfl : k = ps.length := by omega
          go_wp2
          go_loopw [19] (fun ii wx => ∃ j : Nat, j ≤ n3 ∧ ii = .int .i64 j ∧ Below w8.heap.size w8 wx) (fun ii _ => n3 - (intOf ii).toNat)
          case atStart => exact ⟨0, Nat.zero_le _, rfl, below_drewN (Below.refl _ _) _⟩
          case round =>
            obtain ⟨j, hj, rfl, hbj⟩ := hrel
            have hwj := hbj.size
            have tW : wr.cell? ⟨bW, 2, none⟩ = some (.slice sa n3 sc') := (hbj.cell (p := ⟨bW, 2, none⟩) (by show bW < w8.heap.size; omega)).trans x2'
            by_cases hjn : j < n3
            · have hjz : (j : Int) < (n3 : Int) := by omega
              have tF : ∀ o, (wr.alloc o).cell? ⟨bF, 2, none⟩ = some (.slice ta n3 tc) := fun o => by rw [World.cell?_alloc_old _ _ _ (by show bF ≠ wr.heap.size; omega)]; exact (hbj.cell (p := ⟨bF, 2, none⟩) hlt8).trans y2
              have hsa := owk1.1 (by omega)
              have hta := owk2'.1 (by omega)
              subst hsa
              subst hta
              obtain ⟨s0, s1, s2⟩ := (owk1.below hbj).2 j hjn
              obtain ⟨t0, t1, t2⟩ := (owk2'.below hbj).2 j hjn
              have hk2 : k2 < wr.heap.size := World.block_lt_of_cell? _ _ t0
              have t0' : ∀ o, (wr.alloc o).cell? ⟨k2, j * 3, none⟩ = some (.string (S j)) := fun o => by rw [World.cell?_alloc_old _ _ _ (by show k2 ≠ wr.heap.size; omega)]; exact t0
              have t1' : ∀ o, (wr.alloc o).cell? ⟨k2, j * 3 + 1, none⟩ = some (.float .f64 (F j)) := fun o => by rw [World.cell?_alloc_old _ _ _ (by show k2 ≠ wr.heap.size; omega)]; exact t1
              have t2' : ∀ o, (wr.alloc o).cell? ⟨k2, j * 3 + 2, none⟩ = some (.int .u8 (grp (F j))) := fun o => by rw [World.cell?_alloc_old _ _ _ (by show k2 ≠ wr.heap.size; omega)]; exact t2
              clear t0 t1 t2
              go_wp2_with (go_at_call 21; refine (same_float _ _).mono ?_; rintro e w' ⟨rfl, rfl⟩)
              go_roundw
              case rel => exact ⟨j + 1, by omega, by go_num, (hbj.alloc hwj _).alloc (by simp; omega) _⟩
              case measure => simp [intOf]; omega
            · have hjz : ¬ (j : Int) < (n3 : Int) := by omega
              go_wp2
              go_ret
              exact ⟨rfl, HB8.out.trans (hbj.mono HB8.out.size)⟩
      · have hinz : ¬ (i : Int) < (pn : Int) := by omega
        obtain rfl : k = ps.length := sub_end hk HSU.out (by rw [HFS.out]; omega)
        go_wp2
        go_loopw [19] (fun ii wx => ∃ j : Nat, j ≤ n3 ∧ ii = .int .i64 j ∧ Below w8.heap.size w8 wx) (fun ii _ => n3 - (intOf ii).toNat)
        case atStart => exact ⟨0, Nat.zero_le _, rfl, below_drewN (Below.refl _ _) _⟩
        case round =>
          obtain ⟨j, hj, rfl, hbj⟩ := hrel
          have hwj := hbj.size
          have tW : wr.cell? ⟨bW, 2, none⟩ = some (.slice sa n3 sc') := (hbj.cell (p := ⟨bW, 2, none⟩) (by show bW < w8.heap.size; omega)).trans x2'
          by_cases hjn : j < n3
          · have hjz : (j : Int) < (n3 : Int) := by omega
            have tF : ∀ o, (wr.alloc o).cell? ⟨bF, 2, none⟩ = some (.slice ta n3 tc) := fun o => by rw [World.cell?_alloc_old _ _ _ (by show bF ≠ wr.heap.size; omega)]; exact (hbj.cell (p := ⟨bF, 2, none⟩) hlt8).trans y2
            have hsa := owk1.1 (by omega)
            have hta := owk2'.1 (by omega)
            subst hsa
            subst hta
            obtain ⟨s0, s1, s2⟩ := (owk1.below hbj).2 j hjn
            obtain ⟨t0, t1, t2⟩ := (owk2'.below hbj).2 j hjn
            have hk2 : k2 < wr.heap.size := World.block_lt_of_cell? _ _ t0
            have t0' : ∀ o, (wr.alloc o).cell? ⟨k2, j * 3, none⟩ = some (.string (S j)) := fun o => by rw [World.cell?_alloc_old _ _ _ (by show k2 ≠ wr.heap.size; omega)]; exact t0
            have t1' : ∀ o, (wr.alloc o).cell? ⟨k2, j * 3 + 1, none⟩ = some (.float .f64 (F j)) := fun o => by rw [World.cell?_alloc_old _ _ _ (by show k2 ≠ wr.heap.size; omega)]; exact t1
            have t2' : ∀ o, (wr.alloc o).cell? ⟨k2, j * 3 + 2, none⟩ = some (.int .u8 (grp (F j))) := fun o => by rw [World.cell?_alloc_old _ _ _ (by show k2 ≠ wr.heap.size; omega)]; exact t2
            clear t0 t1 t2
            go_wp2_with (go_at_call 21; refine (same_float _ _).mono ?_; rintro e w' ⟨rfl, rfl⟩)
            go_roundw
            case rel => exact ⟨j + 1, by omega, by go_num, (hbj.alloc hwj _).alloc (by simp; omega) _⟩
            case measure => simp [intOf]; omega
          · have hjz : ¬ (j : Int) < (n3 : Int) := by omega
            go_wp2
            go_ret
            exact ⟨rfl, HB8.out.trans (hbj.mono HB8.out.size)⟩
end Go.Proofs.Qxb6602208a
