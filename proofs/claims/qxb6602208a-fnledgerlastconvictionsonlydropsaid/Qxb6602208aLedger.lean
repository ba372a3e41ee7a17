/-
  What the ledger's walk carries from round to round: no Go text here.
-/
import Derived.Test.Qxb6602208aRows
import Derived.Below
import Derived.WalkSmall
import Derived.Deep.OwnRows
import Derived.Deep.AppendLies
namespace Go.Proofs.Qxb6602208a
open Go.RowKit

/-- The two blocks that 'last' lays (its result, its local e), in the midst of its loops; nothing that was there has turned. -/
structure Lp (w wr : World) (num : Int) (vp vs : Value) : Prop where
  below : Below w.heap.size w wr
  size : w.heap.size + 2 ≤ wr.heap.size
  res : wr.heap[w.heap.size]? = some (.cells #[.int .u64 0, .slice none 0 0, .slice none 0 0] 47 (0, 0))
  eb : wr.heap[w.heap.size + 1]? = some (.cells #[.int .u64 num, vp, vs] 47 (0, 0))

theorem Lp.start (w : World) (num : Int) : Lp w ((w.alloc (.cells #[.int .u64 0, .slice none 0 0, .slice none 0 0] 47)).alloc (.cells #[.int .u64 num, .slice none 0 0, .slice none 0 0] 47)) num (.slice none 0 0) (.slice none 0 0) := by
  refine ⟨((Below.refl _ _).alloc (Nat.le_refl _) _).alloc (by simp) _, by simp, ?_, ?_⟩
  · rw [Below.heap_alloc _ _ _ (by simp)]; exact heap_alloc_new w _
  · have := heap_alloc_new (w.alloc (.cells #[.int .u64 0, .slice none 0 0, .slice none 0 0] 47)) (.cells #[.int .u64 num, .slice none 0 0, .slice none 0 0] 47)
    simpa using this

theorem Lp.of_heap {w wr w' : World} {num : Int} {vp vs : Value} (h : Lp w wr num vp vs) (hb : Below w.heap.size wr w') (hs : wr.heap.size ≤ w'.heap.size)
    (h1 : w'.heap[w.heap.size]? = wr.heap[w.heap.size]?) (h2 : w'.heap[w.heap.size + 1]? = wr.heap[w.heap.size + 1]?) : Lp w w' num vp vs :=
  ⟨h.below.trans hb, Nat.le_trans h.size hs, h1.trans h.res, h2.trans h.eb⟩

theorem Lp.drewN {w wr : World} {num : Int} {vp vs : Value} (h : Lp w wr num vp vs) (k : Nat) : Lp w (wr.drewN k) num vp vs :=
  h.of_heap (below_drewN (Below.refl _ _) k) (Nat.le_refl _) rfl rfl

/-- Behind a law that grows a row of the call's own. -/
theorem Lp.grown {w wr w' : World} {num : Int} {vp vs : Value} {row : Option Nat} (h : Lp w wr num vp vs) (hg : wr.grownBy w' row) (hr : ∀ k, row = some k → w.heap.size + 2 ≤ k) : Lp w w' num vp vs := by
  have hs := h.size
  refine h.of_heap ⟨hg.os, hg.tape, hg.output, hg.size, fun k hk => hg.block k (by omega) (fun e => by have := hr k e.symm; omega)⟩ hg.size (hg.block _ (by omega) (fun e => by have := hr _ e.symm; omega)) (hg.block _ (by omega) (fun e => by have := hr _ e.symm; omega))

theorem Lp.put1 {w wr : World} {num : Int} {vp vs : Value} (h : Lp w wr num vp vs) (v : Value) : Lp w (wr.setCell ⟨w.heap.size + 1, 1, none⟩ v) num v vs := by
  refine ⟨h.below.setCell (by show w.heap.size ≤ w.heap.size + 1; omega) _, by simp [World.setCell]; exact h.size, ?_, ?_⟩
  · rw [Below.heap_setCell _ _ _ _ (by show w.heap.size ≠ w.heap.size + 1; omega)]; exact h.res
  · rw [heap_setCell_same wr _ _ _ _ _ h.eb]; rfl

theorem Lp.put2 {w wr : World} {num : Int} {vp vs : Value} (h : Lp w wr num vp vs) (v : Value) : Lp w (wr.setCell ⟨w.heap.size + 1, 2, none⟩ v) num vp v := by
  refine ⟨h.below.setCell (by show w.heap.size ≤ w.heap.size + 1; omega) _, by simp [World.setCell]; exact h.size, ?_, ?_⟩
  · rw [Below.heap_setCell _ _ _ _ (by show w.heap.size ≠ w.heap.size + 1; omega)]; exact h.res
  · rw [heap_setCell_same wr _ _ _ _ _ h.eb]; rfl

theorem Lp.c0 {w wr : World} {num : Int} {vp vs : Value} (h : Lp w wr num vp vs) : wr.cell? ⟨w.heap.size + 1, 0, none⟩ = some (.int .u64 num) := by rw [cell_of_row wr _ _ _ _ _ h.eb]; rfl
theorem Lp.c1 {w wr : World} {num : Int} {vp vs : Value} (h : Lp w wr num vp vs) : wr.cell? ⟨w.heap.size + 1, 1, none⟩ = some vp := by rw [cell_of_row wr _ _ _ _ _ h.eb]; rfl
theorem Lp.c2 {w wr : World} {num : Int} {vp vs : Value} (h : Lp w wr num vp vs) : wr.cell? ⟨w.heap.size + 1, 2, none⟩ = some vs := by rw [cell_of_row wr _ _ _ _ _ h.eb]; rfl
theorem Lp.fz {w wr : World} {num : Int} {vp vs : Value} (h : Lp w wr num vp vs) (k : Nat) : wr.frozen? ⟨w.heap.size + 1, k, none⟩ = false := frozen_of_row wr _ _ _ _ h.eb

theorem grown_drewN {w w' : World} {row : Option Nat} (h : w.grownBy w' row) (k : Nat) : w.grownBy (w'.drewN k) row := ⟨h.os, h.tape, h.output, h.size, h.block⟩

theorem owns_put {w : World} {base : Nat} {e : TypeId} {size : Nat} {v : Value} {n : Nat} {xs : List Value} (h : w.ownsRow base e size v n xs) {x : Nat} (hx : x < base) (o : Nat) (u : Value) : (w.setCell ⟨x, o, none⟩ u).ownsRow base e size v n xs := ownsRow_setCell_below h hx u

theorem grown_alloc_drew (w : World) (o : Obj) (row : Option Nat) : w.grownBy (w.alloc o).drew row :=
  have h := World.grownBy_alloc w o row
  ⟨h.os, h.tape, h.output, h.size, h.block⟩

/-- Behind 'e.Primaries = append(e.Primaries, s)'. -/
theorem keep1 {w wq w1 : World} {num : Int} {vp vs v' : Value} {ps : List ByteArray} {s : ByteArray} {o : Obj} (hL : Lp w wq num vp vs) (hown : wq.ownsRow (w.heap.size + 2) 9 1 vp ps.length (ps.map Value.string))
    (hown1 : w1.ownsRow (w.heap.size + 2) 9 1 v' (ps.length + 1) (ps.map Value.string ++ [.string s])) (hgrow : ((wq.alloc o).drew).grownBy w1 vp.ownBlock) :
    Lp w (w1.setCell ⟨w.heap.size + 1, 1, none⟩ v') num v' vs ∧ (w1.setCell ⟨w.heap.size + 1, 1, none⟩ v').ownsRow (w.heap.size + 2) 9 1 v' (ps ++ [s]).length ((ps ++ [s]).map Value.string) := by
  have hg := (grown_alloc_drew wq o vp.ownBlock).trans hgrow
  refine ⟨(hL.grown hg (fun k hk => (hown.lt k hk).1)).put1 v', ?_⟩
  have := owns_put hown1 (x := w.heap.size + 1) (by omega) 1 v'
  simpa using this

/-- The blocks that lay there when the second loop began, but for e's own, are as they were. -/
structure Old (x : Nat) (wr wx : World) : Prop where
  size : wr.heap.size ≤ wx.heap.size
  block : ∀ k, k < wr.heap.size → k ≠ x → wx.heap[k]? = wr.heap[k]?

theorem Old.refl (x : Nat) (wr : World) : Old x wr wr := ⟨Nat.le_refl _, fun _ _ _ => rfl⟩

/-- Behind 'e.Standings = append(e.Standings, s)'. -/
theorem keep2 {w wr wq w1 : World} {num : Int} {vp vs v' : Value} {q : Nat} {xs news : List Value} {o : Obj} (hL : Lp w wq num vp vs) (hO : Old (w.heap.size + 1) wr wq) (hr : w.heap.size + 2 ≤ wr.heap.size) (hown : wq.ownsRow wr.heap.size 51 3 vs q xs)
    (hown1 : w1.ownsRow wr.heap.size 51 3 v' (q + 1) (xs ++ news)) (hgrow : ((wq.alloc o).drew).grownBy w1 vs.ownBlock) :
    Lp w (w1.setCell ⟨w.heap.size + 1, 2, none⟩ v') num vp v' ∧ (w1.setCell ⟨w.heap.size + 1, 2, none⟩ v').ownsRow wr.heap.size 51 3 v' (q + 1) (xs ++ news) ∧ Old (w.heap.size + 1) wr (w1.setCell ⟨w.heap.size + 1, 2, none⟩ v') := by
  have hg := (grown_alloc_drew wq o vs.ownBlock).trans hgrow
  refine ⟨(hL.grown hg (fun k hk => by have := (hown.lt k hk).1; omega)).put2 v', owns_put hown1 (by omega) 2 v', ⟨?_, fun k hk hx => ?_⟩⟩
  · have := hO.size
    have := hg.size
    simp [World.setCell]
    omega
  · rw [Below.heap_setCell _ _ _ _ (by exact hx), hg.block k (by have := hO.size; omega) (fun e => by have := (hown.lt k e.symm).1; omega)]
    exact hO.block k hk hx

theorem owns_base {w : World} {base base' : Nat} {e : TypeId} {size : Nat} {v : Value} {n : Nat} {xs : List Value} (h : w.ownsRow base e size v n xs) (hb : base' ≤ base) : w.ownsRow base' e size v n xs := by
  obtain ⟨h1, h2⟩ := h
  refine ⟨h1, ?_⟩
  rcases h2 with h2 | ⟨g, cap, cur, hv, hg, r⟩
  · exact .inl h2
  · exact .inr ⟨g, cap, cur, hv, Nat.le_trans hb hg, r⟩

/-- A row that lay there when the second loop began. -/
theorem Old.owns {x : Nat} {wr wx : World} (h : Old x wr wx) {base : Nat} {e : TypeId} {size : Nat} {v : Value} {n : Nat} {xs : List Value} (ho : wr.ownsRow base e size v n xs) (hx : x < base) : wx.ownsRow base e size v n xs := by
  obtain ⟨h1, h2⟩ := ho
  refine ⟨h1, ?_⟩
  rcases h2 with h2 | ⟨g, cap, cur, hv, hg, hh, r⟩
  · exact .inl h2
  · exact .inr ⟨g, cap, cur, hv, hg, (h.block g (Array.getElem?_eq_some_iff.1 hh).1 (by omega)).trans hh, r⟩

theorem owns_slice {w : World} {base : Nat} {e : TypeId} {size : Nat} {v : Value} {n : Nat} {xs : List Value} (h : w.ownsRow base e size v n xs) : ∃ a c, v = .slice a n c ∧ (0 < n → ∃ g, a = some ⟨g, 0, none⟩ ∧ base ≤ g ∧ g < w.heap.size) := by
  rcases h.2 with ⟨h2, rfl⟩ | ⟨g, cap, cur, hv, hg, hh, r⟩
  · exact ⟨none, 0, h2, fun h => absurd h (by omega)⟩
  · exact ⟨some ⟨g, 0, none⟩, cap, hv, fun _ => ⟨g, rfl, hg, (Array.getElem?_eq_some_iff.1 hh).1⟩⟩

/-- What has been gathered: a part of all, and all where no map is. -/
def Sub (m : Option Nat) (g : Nat → ByteArray) (j : Nat) (ps : List ByteArray) : Prop := ps.Sublist ((List.range j).map g) ∧ (m = none → ps = (List.range j).map g)

theorem Sub.zero (m : Option Nat) (g : Nat → ByteArray) : Sub m g 0 [] := ⟨List.Sublist.refl _, fun _ => rfl⟩
theorem Sub.take {m : Option Nat} {g : Nat → ByteArray} {j : Nat} {ps : List ByteArray} (h : Sub m g j ps) : Sub m g (j + 1) (ps ++ [g j]) := by
  rw [Sub, List.range_succ, List.map_append]
  exact ⟨h.1.append (List.Sublist.refl _), fun e => by rw [h.2 e]; rfl⟩
theorem Sub.drop {m : Option Nat} {g : Nat → ByteArray} {j : Nat} {ps : List ByteArray} (h : Sub m g j ps) (hm : m ≠ none) : Sub m g (j + 1) ps := by
  rw [Sub, List.range_succ, List.map_append]
  exact ⟨h.1.trans (List.sublist_append_left _ _), fun e => absurd e hm⟩
theorem Sub.len {m : Option Nat} {g : Nat → ByteArray} {j : Nat} {ps : List ByteArray} (h : Sub m g j ps) : ps.length ≤ j := by
  have := h.1.length_le
  simpa using this

/-- The cells of the first i standings. -/
def sc (S : Nat → ByteArray) (F : Nat → Nat) (G : Nat → Int) : Nat → List Value
  | 0 => []
  | i + 1 => sc S F G i ++ [.string (S i), .float .f64 (F i), .int .u8 (G i)]

theorem sc_length (S : Nat → ByteArray) (F : Nat → Nat) (G : Nat → Int) (i : Nat) : (sc S F G i).length = i * 3 := by
  induction i with
  | zero => rfl
  | succ i ih => simp [sc, ih]; omega

theorem sc_at (S : Nat → ByteArray) (F : Nat → Nat) (G : Nat → Int) (n i : Nat) (hi : i < n) :
    (sc S F G n)[i * 3]? = some (.string (S i)) ∧ (sc S F G n)[i * 3 + 1]? = some (.float .f64 (F i)) ∧ (sc S F G n)[i * 3 + 2]? = some (.int .u8 (G i)) := by
  induction n with
  | zero => exact absurd hi (by omega)
  | succ n ih =>
    have hl := sc_length S F G n
    by_cases e : i = n
    · subst e
      refine ⟨?_, ?_, ?_⟩
      · rw [sc, List.getElem?_append_right (by omega), hl, Nat.sub_self]; rfl
      · rw [sc, List.getElem?_append_right (by omega), hl, show i * 3 + 1 - i * 3 = 1 from by omega]; rfl
      · rw [sc, List.getElem?_append_right (by omega), hl, show i * 3 + 2 - i * 3 = 2 from by omega]; rfl
    · obtain ⟨h1, h2, h3⟩ := ih (by omega)
      refine ⟨?_, ?_, ?_⟩
      · rw [sc, List.getElem?_append_left (by omega)]; exact h1
      · rw [sc, List.getElem?_append_left (by omega)]; exact h2
      · rw [sc, List.getElem?_append_left (by omega)]; exact h3

/-! ### The law's own search for a part in the whole -/

theorem sub_step_eq {w f : List ByteArray} {i k : Nat} (hi : i < f.length) (hk : k < w.length) (h : (w.drop k).Sublist (f.drop i)) (e : f.getD i ByteArray.empty = w.getD k ByteArray.empty) : (w.drop (k + 1)).Sublist (f.drop (i + 1)) := by
  rw [List.drop_eq_getElem_cons hi, List.drop_eq_getElem_cons hk] at h
  have e' : f[i] = w[k] := by simpa [List.getD_eq_getElem?_getD, hi, hk] using e
  rw [e'] at h
  exact List.cons_sublist_cons.1 h

theorem sub_step_ne {w f : List ByteArray} {i k : Nat} (hi : i < f.length) (hk : k < w.length) (h : (w.drop k).Sublist (f.drop i)) (e : ¬ f.getD i ByteArray.empty = w.getD k ByteArray.empty) : (w.drop k).Sublist (f.drop (i + 1)) := by
  rw [List.drop_eq_getElem_cons hi, List.drop_eq_getElem_cons hk] at h
  have e' : ¬ f[i] = w[k] := fun h => e (by simpa [List.getD_eq_getElem?_getD, hi, hk] using h)
  rw [List.drop_eq_getElem_cons hk]
  rcases List.sublist_cons_iff.1 h with h | ⟨r, hr, _⟩
  · exact h
  · simp only [List.cons.injEq] at hr
    exact absurd hr.1.symm e'

theorem sub_end {w f : List ByteArray} {i k : Nat} (hk : k ≤ w.length) (h : (w.drop k).Sublist (f.drop i)) (hi : f.length ≤ i) : k = w.length := by
  rw [List.drop_eq_nil_of_le hi] at h
  have := List.sublist_nil.1 h
  have := List.drop_eq_nil_iff.1 this
  omega

#print axioms sc_at
#print axioms sub_step_ne
end Go.Proofs.Qxb6602208a
