/-
  The proof of 'Rows.FnLinesNewlineCountSaid'. The frame is the guide's shell, turned by hand to a slice of structs of three strings.
-/
import Derived.Test.Qxb6602234aRows
import Derived.Test.Qxb6602234aWalkT
import Derived.WalkKit
import Derived.ProofKit
import Derived.OpenShut
import Derived.ShutString
import Derived.ChangeOld
import Derived.Below
import Derived.Deep.Slices
import Derived.Deep.Strs
namespace Go.Proofs.Qxb6602234a.fnLinesNewlineCount
open Go.ChangeShapes Go.WideShapes Go.ChangeAt Go.RowKit
set_option linter.unusedVariables false

theorem own : ownKnob Try.prog.godebug = none := by kernel_rfl
theorem laidOut : laidOutB Try.prog = true := by kernel_rfl
theorem cells30 : Try.prog.cellsOf 30 = 3 := by kernel_rfl
theorem cells9 : Try.prog.cellsOf 9 = 1 := by kernel_rfl

def sOf (v : Option Value) : ByteArray := match v with | some (.string s) => s | _ => ByteArray.empty

/-- The three cells of an error that was read. -/
theorem open_err {H : Type} {enc : TypeId × Value → H} {w : World} {k : Nat} {ad : Addr} {cs : List Value} {x : DataW H × List MemPlace} (h1 : w.cells? 0 ad 3 = some cs) (h2 : DataW.trod enc Try.prog w 0 (fun _ => true) true k 30 cs = some x) :
    ∃ c n m : ByteArray, c.size ≤ maxLen ∧ n.size ≤ maxLen ∧ m.size ≤ maxLen ∧ w.cell? (ad.add 0) = some (.string c) ∧ w.cell? (ad.add 1) = some (.string n) ∧ w.cell? (ad.add 2) = some (.string m) := by
  obtain ⟨y0, y1, y2, fuel, _, hl, t0, t1, t2⟩ := Go.Deep.trod_struct3 Try.underlying30 h2
  obtain ⟨_, hlen, hcell⟩ := World.cells?_some h1
  match cs, hlen with
  | [x0, x1, x2], _ =>
    simp only [cells9] at t0 t1 t2
    obtain ⟨c, e0, _, b0⟩ := DataW.trod_string Try.underlying9 t0
    obtain ⟨n, e1, _, b1⟩ := DataW.trod_string Try.underlying9 t1
    obtain ⟨m, e2, _, b2⟩ := DataW.trod_string Try.underlying9 t2
    simp at e0 e1 e2
    subst e0 e1 e2
    exact ⟨c, n, m, b0, b1, b2, hcell 0 (by omega), hcell 1 (by omega), hcell 2 (by omega)⟩

theorem open_errs {H : Type} {enc : TypeId × Value → H} {w : World} {fuel : Nat} {a : Option Addr} {n c : Nat} {x : DataW H × List MemPlace}
    (h : DataW.trod enc Try.prog w 0 (fun _ => true) true fuel 22 [.slice a n c] = some x) : n ≤ maxLen ∧ ∃ C N M : Nat → ByteArray, Small n C N M ∧ View3 w a n c C N M := by
  rcases Go.Deep.open_slice Try.underlying22 h with ⟨hcs, _⟩ | ⟨ad, len, cap, mm, k, D, Pl, hcs, _, hl, hm, hmm, _, hel⟩
  · simp at hcs
    obtain ⟨rfl, rfl, rfl⟩ := hcs
    exact ⟨Nat.zero_le _, fun _ => ByteArray.empty, fun _ => ByteArray.empty, fun _ => ByteArray.empty, fun i hi => absurd hi (by omega), .inl ⟨rfl, rfl, rfl⟩⟩
  · simp at hcs
    obtain ⟨rfl, rfl, rfl⟩ := hcs
    have each : ∀ i, i < n → ∃ c n m : ByteArray, c.size ≤ maxLen ∧ n.size ≤ maxLen ∧ m.size ≤ maxLen ∧ w.cell? ((ad.add (i * 3)).add 0) = some (.string c) ∧ w.cell? ((ad.add (i * 3)).add 1) = some (.string n) ∧ w.cell? ((ad.add (i * 3)).add 2) = some (.string m) := fun i hi => by
      obtain ⟨cs', h1, h2⟩ := hel i (by simp at hmm; omega)
      rw [cells30] at h1
      exact open_err h1 h2
    refine ⟨Nat.le_trans hl hm, fun i => sOf (w.cell? ((ad.add (i * 3)).add 0)), fun i => sOf (w.cell? ((ad.add (i * 3)).add 1)), fun i => sOf (w.cell? ((ad.add (i * 3)).add 2)), fun i hi => ?_, ?_⟩
    · obtain ⟨c, n, m, b0, b1, b2, e0, e1, e2⟩ := each i hi
      show (sOf (w.cell? ((ad.add (i * 3)).add 0))).size ≤ maxLen ∧ (sOf (w.cell? ((ad.add (i * 3)).add 1))).size ≤ maxLen ∧ (sOf (w.cell? ((ad.add (i * 3)).add 2))).size ≤ maxLen
      rw [e0, e1, e2]
      exact ⟨b0, b1, b2⟩
    · by_cases hp : 0 < n
      · obtain ⟨b, o, spot⟩ := ad
        have hspot : spot = none := by
          obtain ⟨c, n, m, _, _, _, e0, _⟩ := each 0 hp
          simpa [Addr.add] using World.cell?_spot e0
        subst hspot
        refine .inr ⟨_, b, o, rfl, fun _ => rfl, fun i hi => ?_⟩
        obtain ⟨c, n, m, b0, b1, b2, e0, e1, e2⟩ := each i hi
        simp only [Go.WideShapes.add_plain, Nat.add_zero] at e0 e1 e2 ⊢
        rw [e0, e1, e2]
        exact ⟨rfl, rfl, rfl⟩
      · exact .inr ⟨ad, 0, 0, rfl, fun h => absurd h hp, fun i hi => absurd hi (by omega)⟩

set_option maxRecDepth 100000 in
theorem lifted (os : Os) (started : os.Started) (H : Type) (enc : TypeId × Value → H) :
    ReturnsInHanded {} Try.checked os 3 .any (Rows.fnLinesNewlineCountSpec.pre6 enc Try.prog Try.f3 Rows.fnLinesNewlineCountRow.domain false) (Rows.fnLinesNewlineCountSpec.post enc Try.prog Try.f3 false true false false) := by
  refine returnsInHanded_of_change (C := Try.checked) own started (by kernel_rfl) Try.func3
    (ChangeSpec.witness6 (enc := enc) (C := Try.checked) false ⟨#[], #[.slice none 0 0], []⟩ 8 (by kernel_rfl) (by kernel_rfl) (by kernel_rfl) (by kernel_rfl)) ?_
  intro W base args ds gs before hval0 hW hcnd _
  have hval : ∀ (j : Nat) t v, Try.f3.params[j]? = some t → args[j]? = some v → Value.okWide Try.prog W .any base t v := hval0
  have hW' := hW
  obtain ⟨p, q, hA0, hV, rfl, hfz, hnd⟩ := hW
  have hA : DataW.TrodAll enc Try.prog W 0 (fun _ => true) true Try.f3.params.toList args.toList ds p := hA0
  rw [Try.params3] at hA hval
  obtain ⟨v0, vs0, d0, ds0, p0, q0, hargs, rfl, rfl, h0, r0⟩ := trodAll_cons hA
  obtain ⟨rfl, rfl, rfl⟩ := trodAll_nil r0
  obtain rfl : args = #[v0] := by cases args; simp_all
  obtain ⟨rfl, rfl⟩ := trodVars_none hV
  obtain ⟨a0, n0, c0, rfl⟩ := okWide_slice Try.underlying22 (hval 0 22 v0 rfl rfl)
  have k0 := h0
  have lt0 : ∀ x ∈ p0, x.block < W.heap.size := by obtain ⟨m, hm⟩ := k0; exact DataW.trod_lt m _ _ _ hm
  obtain ⟨b0, C, N, M, hS, hv⟩ : n0 ≤ maxLen ∧ ∃ C N M : Nat → ByteArray, Small n0 C N M ∧ View3 W a0 n0 c0 C N M := by
    obtain ⟨fuel, hf⟩ := h0
    exact open_errs (by simpa [Value.cells] using hf)
  clear hA0 hval0
  refine (walk_all a0 n0 c0 C N M W b0 hS hv).mono fun e W' ⟨he, bel⟩ => ?_
  subst he
  exact ⟨_, rfl, _, _, _, [], _, [], hW', trodAll_mk1 (shut_bool Try.underlying4 _), (trodAll_cons_mk (Below.trod laidOut (by kernel_rfl) (of_decide_eq_true (by kernel_rfl)) k0 bel lt0) trodAll_mk0), rfl, bel.frame _, fun h => by cases h⟩

theorem over : Rows.fnLinesNewlineCountRow.holds Try.pinned (OpenSpec.ofChange Rows.fnLinesNewlineCountSpec) :=
  OpenClaim.holds_of_wide 3 Try.f3 rfl rfl rfl rfl rfl rfl rfl ⟨rfl, rfl, rfl, rfl, rfl⟩ rfl rfl rfl rfl rfl (by kernel_rfl) Try.func3 (by kernel_rfl)
    (of_decide_eq_true (by kernel_rfl)) (by unfold Func.isWrapper; first | (rw [if_pos (by decide +kernel)]; kernel_rfl) | (rw [if_neg (by decide +kernel)]; exact ⟨rfl, rfl⟩))
    (fun os started H enc _ => lifted os started H enc)

theorem proved : Rows.FnLinesNewlineCountSaid := over
#print axioms proved
end Go.Proofs.Qxb6602234a.fnLinesNewlineCount
