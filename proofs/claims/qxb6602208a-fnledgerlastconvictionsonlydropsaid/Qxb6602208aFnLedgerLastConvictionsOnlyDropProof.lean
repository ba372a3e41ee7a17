/-
  The proof of 'Rows.FnLedgerLastConvictionsOnlyDropSaid'. The frame is the guide's shell, turned by hand to slices of floats and strings and a map.
-/
import Derived.Test.Qxb6602208aRows
import Derived.Test.Qxb6602208aWalkT
import Derived.WalkKit
import Derived.ProofKit
import Derived.OpenShut
import Derived.ShutString
import Derived.ChangeOld
import Derived.Below
import Derived.Deep.Slices
import Derived.SliceStrings
import Derived.Maps.OwnSet
namespace Go.Proofs.Qxb6602208a.fnLedgerLastConvictionsOnlyDrop
open Go.ChangeShapes Go.WideShapes Go.ChangeAt Go.RowKit Go.WideElems
open Go.ChangeMaps (open_string shut_string)
set_option linter.unusedVariables false

theorem own : ownKnob Try.prog.godebug = none := by kernel_rfl
theorem laidOut : laidOutB Try.prog = true := by kernel_rfl
theorem cells22 : Try.prog.cellsOf 22 = 1 := by kernel_rfl

/-- A slice whose cells are known at their places, seen by index. -/
theorem view_mk {w : World} {x : Addr} {n c : Nat} {f : Nat → Value} (h : ∀ i, i < n → w.cell? (x.add i) = some (f i)) : View w (some x) n c f := by
  by_cases hp : 0 < n
  · obtain ⟨b, off, spot⟩ := x
    have hspot : spot = none := by simpa [Addr.add] using World.cell?_spot (h 0 hp)
    subst hspot
    exact .inr ⟨_, b, off, rfl, fun _ => rfl, fun i hi => by rw [← Go.WideShapes.add_plain]; exact h i hi⟩
  · exact .inr ⟨x, 0, 0, rfl, fun h => absurd h hp, fun i hi => absurd hi (by omega)⟩

def bitsOf (v : Option Value) : Nat := match v with | some (.float _ b) => b | _ => 0

theorem trod_float {H : Type} {enc : TypeId × Value → H} {P : Program} {w : World} {base : Nat} {spare : Nat → Bool} {held : Bool} {fuel : Nat} {t : TypeId} {cs : List Value} {x : DataW H × List MemPlace} {k : FloatKind}
    (ht : P.underlying t = some (.float k)) (h : DataW.trod enc P w base spare held fuel t cs = some x) : ∃ b, cs = [.float k b] := by
  cases fuel with
  | zero => simp [DataW.trod] at h
  | succ n =>
    unfold DataW.trod at h
    rw [ht] at h
    split at h <;> simp_all

/-- A slice of floats that came in. -/
theorem open_floats {H : Type} {enc : TypeId × Value → H} {w : World} {fuel : Nat} {a : Option Addr} {n c : Nat} {x : DataW H × List MemPlace}
    (h : DataW.trod enc Try.prog w 0 (fun _ => true) true fuel 36 [.slice a n c] = some x) : n ≤ maxLen ∧ ∃ F : Nat → Nat, View w a n c (fun i => .float .f64 (F i)) := by
  rcases Go.Deep.open_slice Try.underlying36 h with ⟨hcs, _⟩ | ⟨ad, len, cap, mm, k, D, Pl, hcs, _, hl, hm, hmm, _, hel⟩
  · simp at hcs
    obtain ⟨rfl, rfl, rfl⟩ := hcs
    exact ⟨Nat.zero_le _, fun _ => 0, .inl ⟨rfl, rfl, rfl⟩⟩
  · simp at hcs
    obtain ⟨rfl, rfl, rfl⟩ := hcs
    refine ⟨Nat.le_trans hl hm, fun i => bitsOf (w.cell? (ad.add i)), view_mk fun i hi => ?_⟩
    obtain ⟨cs', h1, h2⟩ := hel i (by simp at hmm; omega)
    obtain ⟨b, rfl⟩ := trod_float Try.underlying22 h2
    rw [cells22, Nat.mul_one] at h1
    have hv := cell_of_cells?_one h1
    show w.cell? (ad.add i) = some (.float .f64 (bitsOf (w.cell? (ad.add i))))
    rw [hv]
    rfl

set_option maxRecDepth 100000 in
theorem lifted (os : Os) (started : os.Started) (H : Type) (enc : TypeId × Value → H) :
    ReturnsInHanded {} Try.checked os 6 .any (Rows.fnLedgerLastConvictionsOnlyDropSpec.pre6 enc Try.prog Try.f6 Rows.fnLedgerLastConvictionsOnlyDropRow.domain false) (Rows.fnLedgerLastConvictionsOnlyDropSpec.post enc Try.prog Try.f6 false true false false) := by
  refine returnsInHanded_of_change (C := Try.checked) own started (by kernel_rfl) Try.func6
    (ChangeSpec.witness6 (enc := enc) (C := Try.checked) false ⟨#[], #[.int .u64 0, .slice none 0 0, .int .u64 0, .slice none 0 0, .slice none 0 0, .map none], []⟩ 8 (by kernel_rfl) (by kernel_rfl) (by kernel_rfl) (by kernel_rfl)) ?_
  intro W base args ds gs before hval0 hW hcnd _
  have hval : ∀ (j : Nat) t v, Try.f6.params[j]? = some t → args[j]? = some v → Value.okWide Try.prog W .any base t v := hval0
  have hW' := hW
  obtain ⟨p, q, hA0, hV, rfl, hfz, hnd⟩ := hW
  have hA : DataW.TrodAll enc Try.prog W 0 (fun _ => true) true Try.f6.params.toList args.toList ds p := hA0
  rw [Try.params6] at hA hval
  obtain ⟨v0, vs0, d0, ds0, p0, q0, hargs, rfl, rfl, h0, r0⟩ := trodAll_cons hA
  obtain ⟨v1, vs1, d1, ds1, p1, q1, rfl, rfl, rfl, h1, r1⟩ := trodAll_cons r0
  obtain ⟨v2, vs2, d2, ds2, p2, q2, rfl, rfl, rfl, h2, r2⟩ := trodAll_cons r1
  obtain ⟨v3, vs3, d3, ds3, p3, q3, rfl, rfl, rfl, h3, r3⟩ := trodAll_cons r2
  obtain ⟨v4, vs4, d4, ds4, p4, q4, rfl, rfl, rfl, h4, r4⟩ := trodAll_cons r3
  obtain ⟨v5, vs5, d5, ds5, p5, q5, rfl, rfl, rfl, h5, r5⟩ := trodAll_cons r4
  obtain ⟨rfl, rfl, rfl⟩ := trodAll_nil r5
  obtain rfl : args = #[v0, v1, v2, v3, v4, v5] := by cases args; simp_all
  obtain ⟨rfl, rfl⟩ := trodVars_none hV
  obtain ⟨a0, rfl, rfl, rfl, w0⟩ := open_int Try.underlying27 (hval 0 27 v0 rfl rfl) h0
  obtain ⟨a2, rfl, rfl, rfl, w2⟩ := open_int Try.underlying27 (hval 2 27 v2 rfl rfl) h2
  obtain ⟨a1, n1, c1, rfl⟩ := okWide_slice Try.underlying35 (hval 1 35 v1 rfl rfl)
  obtain ⟨a3, n3, c3, rfl⟩ := okWide_slice Try.underlying36 (hval 3 36 v3 rfl rfl)
  obtain ⟨a4, n4, c4, rfl⟩ := okWide_slice Try.underlying37 (hval 4 37 v4 rfl rfl)
  obtain ⟨m, rfl⟩ := okWide_map Try.underlying38 (hval 5 38 v5 rfl rfl)
  have k1 := h1
  have k3 := h3
  have k4 := h4
  have k5 := h5
  have lt1 : ∀ x ∈ p1, x.block < W.heap.size := by obtain ⟨m, hm⟩ := k1; exact DataW.trod_lt m _ _ _ hm
  have lt3 : ∀ x ∈ p3, x.block < W.heap.size := by obtain ⟨m, hm⟩ := k3; exact DataW.trod_lt m _ _ _ hm
  have lt4 : ∀ x ∈ p4, x.block < W.heap.size := by obtain ⟨m, hm⟩ := k4; exact DataW.trod_lt m _ _ _ hm
  have lt5 : ∀ x ∈ p5, x.block < W.heap.size := by obtain ⟨m, hm⟩ := k5; exact DataW.trod_lt m _ _ _ hm
  obtain ⟨b1, L, w1⟩ : n1 ≤ maxLen ∧ ∃ L : Nat → Int, View W a1 n1 c1 (fun i => .int .i64 (L i)) := by
    obtain ⟨fuel, hf⟩ := h1
    rcases open_ints Try.underlying35 Try.underlying3 (by kernel_rfl) hf with ⟨hcs, _⟩ | ⟨x, l, c, zs, hcs, _, hl, hm, hz, _, hcell, hwz⟩
    · simp [Value.cells] at hcs
      obtain ⟨rfl, rfl, rfl⟩ := hcs
      exact ⟨Nat.zero_le _, fun _ => 0, .inl ⟨rfl, rfl, rfl⟩⟩
    · simp [Value.cells] at hcs
      obtain ⟨rfl, rfl, rfl⟩ := hcs
      simp at hz
      exact ⟨Nat.le_trans hl hm, fun i => zs.getD i 0, view_mk fun i hi => hcell i (by omega)⟩
  obtain ⟨b3, F, w3⟩ : n3 ≤ maxLen ∧ ∃ F : Nat → Nat, View W a3 n3 c3 (fun i => .float .f64 (F i)) := by
    obtain ⟨fuel, hf⟩ := h3
    exact open_floats (by simpa [Value.cells] using hf)
  obtain ⟨b4, S, hS, w4⟩ : n4 ≤ maxLen ∧ ∃ S : Nat → ByteArray, (∀ i, i < n4 → (S i).size ≤ maxLen) ∧ View W a4 n4 c4 (fun i => .string (S i)) := by
    obtain ⟨fuel, hf⟩ := h4
    rcases open_strings Try.underlying37 Try.underlying9 (by kernel_rfl) hf with ⟨hcs, _⟩ | ⟨x, l, c, ss, hcs, _, hl, hm, hz, _, hcell, hws⟩
    · simp [Value.cells] at hcs
      obtain ⟨rfl, rfl, rfl⟩ := hcs
      exact ⟨Nat.zero_le _, fun _ => ByteArray.empty, fun i hi => absurd hi (by omega), .inl ⟨rfl, rfl, rfl⟩⟩
    · simp [Value.cells] at hcs
      obtain ⟨rfl, rfl, rfl⟩ := hcs
      simp at hz
      refine ⟨Nat.le_trans hl hm, fun i => ss.getD i ByteArray.empty, fun i hi => ?_, view_mk fun i hi => hcell i (by omega)⟩
      have hi' : i < ss.length := by omega
      have hg : ss.getD i ByteArray.empty = ss[i] := by simp [hi']
      show (ss.getD i ByteArray.empty).size ≤ maxLen
      rw [hg]
      exact hws _ (List.getElem_mem hi')
  have w5 : MapOk H W m := by
    obtain ⟨fuel, hf⟩ := h5
    rcases open_map Try.underlying38 hf with ⟨hcs, _⟩ | ⟨bm, es, clock, mm, rfl, hcs, hb, _, Ft, _⟩
    · simp [Value.cells] at hcs
      exact .inl hcs
    · simp [Value.cells] at hcs
      exact .inr ⟨bm, es.size, _, hcs, Ft.size, World.ownsMap_of_fit (R := plainElem Try.prog 27) hb Ft (fun x _ z hz => elemAt_plainElem_int Try.underlying27 hz)⟩
  have hpv : 0 ≤ a2 := by
    simp [Lit.wf, IntKind.min, IntKind.max, IntKind.signed, IntKind.bits] at w2
    omega
  clear hA0 hval0
  refine (walk_all a0 a1 n1 c1 a2 a3 n3 c3 a4 n4 c4 m L F S W b1 b3 b4 hpv hS w1 w3 w4 w5).mono fun e W' ⟨he, bel⟩ => ?_
  subst he
  exact ⟨_, rfl, _, _, _, [], _, [], hW', trodAll_mk1 (shut_bool Try.underlying4 _), (trodAll_cons_mk (shut_int Try.underlying27 w0) (trodAll_cons_mk (Below.trod laidOut (by kernel_rfl) (of_decide_eq_true (by kernel_rfl)) k1 bel lt1) (trodAll_cons_mk (shut_int Try.underlying27 w2) (trodAll_cons_mk (Below.trod laidOut (by kernel_rfl) (of_decide_eq_true (by kernel_rfl)) k3 bel lt3) (trodAll_cons_mk (Below.trod laidOut (by kernel_rfl) (of_decide_eq_true (by kernel_rfl)) k4 bel lt4) (trodAll_cons_mk (Below.trod laidOut (by kernel_rfl) (of_decide_eq_true (by kernel_rfl)) k5 bel lt5) trodAll_mk0)))))), rfl, bel.frame _, fun h => by cases h⟩

theorem over : Rows.fnLedgerLastConvictionsOnlyDropRow.holds Try.pinned (OpenSpec.ofChange Rows.fnLedgerLastConvictionsOnlyDropSpec) :=
  OpenClaim.holds_of_wide 6 Try.f6 rfl rfl rfl rfl rfl rfl rfl ⟨rfl, rfl, rfl, rfl, rfl⟩ rfl rfl rfl rfl rfl (by kernel_rfl) Try.func6 (by kernel_rfl)
    (of_decide_eq_true (by kernel_rfl)) (by unfold Func.isWrapper; first | (rw [if_pos (by decide +kernel)]; kernel_rfl) | (rw [if_neg (by decide +kernel)]; exact ⟨rfl, rfl⟩))
    (fun os started H enc _ => lifted os started H enc)

theorem proved : Rows.FnLedgerLastConvictionsOnlyDropSaid := over
#print axioms proved
end Go.Proofs.Qxb6602208a.fnLedgerLastConvictionsOnlyDrop
