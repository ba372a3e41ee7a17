/-
  The proof of 'Rows.FnDecoderFixedWholeSaid'. The frame is the guide's shell (written by its tool for this function); the walk is filled.
-/
import Derived.Test.Qxb6602208aRows
import Derived.Test.Qxb6602208aWalkC
import Derived.Test.Qxb6602208aWalkD
import Derived.Test.Qxb6602208aWalkE
import Derived.WalkKit
import Derived.ProofKit
import Derived.OpenShut
import Derived.ShutString
import Derived.ChangeOld
import Derived.Below
namespace Go.Proofs.Qxb6602208a.fnDecoderFixedWhole
open Go.ChangeShapes Go.WideShapes Go.ChangeAt Go.RowKit
open Go.ChangeMaps (open_string shut_string)
set_option linter.unusedVariables false

theorem own : ownKnob Try.prog.godebug = none := by kernel_rfl
theorem laidOut : laidOutB Try.prog = true := by kernel_rfl

/-- WHAT THE WALK IS TOLD OF A SLICE OF INTEGERS THAT CAME IN: it is nil; or it leads to a row of 'cap' cells, the numbers 'zs' (the first 'len' are its elements, the rest its spare room), each fitting its kind. -/
def IsRow (k : IntKind) (w : World) (a : Option Addr) (len cap : Nat) (zs : List Int) : Prop :=
  (a = none ∧ len = 0 ∧ cap = 0 ∧ zs = []) ∨
  ∃ x, a = some x ∧ len ≤ cap ∧ cap ≤ maxLen ∧ zs.length = cap ∧ (∀ i, i < zs.length → w.cell? (x.add i) = some (.int k (zs.getD i 0))) ∧ ∀ n ∈ zs, (Lit.int k n).wf = true

/-! ### STEP 1: THE WALK: the Go text returns true, AND WRITES NOTHING THAT WAS THERE: 'Below w.heap.size w w'' (Derived/Below.lean: '.refl', '.alloc', '.drew', '.setCell' at a new block, '.trans'). Open each 'IsRow' by 'rcases' AHEAD of 'go_enter'; part every test ahead of the walk. -/
/-- The copy, whatever came in. -/
theorem clone_uni (a0 : Option Addr) (n c : Nat) (z0 : List Int) (w : World) (w0 : IsRow .u8 w a0 n c z0) (hn : n ≤ 1048576) :
    Calls Try.prog 9 #[.slice a0 n c] w fun r w' => ∃ ra, r = .returned (.slice ra n n) ∧ (0 < n → ra = some ⟨w.heap.size, 0, none⟩) ∧ (∀ i, i < n → w'.cell? ⟨w.heap.size, i, none⟩ = some (.int .u8 (z0.getD i 0))) ∧ Below w.heap.size w w' := by
  rcases w0 with ⟨rfl, rfl, rfl, _⟩ | ⟨x, rfl, hl, _, hz, hcell, _⟩
  · exact (clone_nil w).mono fun e w' ⟨he, hw⟩ => ⟨none, he, fun h => absurd h (by omega), fun i h => absurd h (by omega), hw ▸ Below.refl _ _⟩
  · by_cases hp : 0 < n
    · obtain ⟨b, o, rfl, hc⟩ := ints_at hcell (by omega)
      exact (clone_any _ b o n c (fun i => z0.getD i 0) w hn (fun _ => rfl) (fun i hi => hc i (by omega))).mono fun e w' ⟨he, hrow, hbel⟩ => ⟨_, he, fun _ => rfl, fun i hi => hrow.cell hi, hbel⟩
    · exact (clone_any x 0 0 n c (fun i => z0.getD i 0) w hn (fun h => absurd h hp) (fun i hi => absurd hi (by omega))).mono fun e w' ⟨he, hrow, hbel⟩ => ⟨_, he, fun _ => rfl, fun i hi => hrow.cell hi, hbel⟩

/-- An input beyond the guards: the law answers true at once. -/
theorem walk_out (a0 : Option Addr) (len0 cap0 : Nat) (a1 : Bool) (a2 : Int) (w : World) (h : ¬ len0 ≤ 1048576) :
    Calls Try.prog 4 #[.slice a0 len0 cap0, .bool a1, .int .u64 a2] w fun e w' => e = .returned (.bool true) ∧ w = w' := by
  go_enter Try.func4, Try.ntmps4
  go_wp2_with (go_at_call 8; refine (bytes_no _ _ _ _ _ _ h).mono ?_; rintro e w' ⟨rfl, rfl⟩)
  go_ret
  exact ⟨rfl, rfl⟩

/-- Short already. -/
theorem walk_short (a0 : Option Addr) (n c : Nat) (z0 : List Int) (e : Int) (w : World) (w0 : IsRow .u8 w a0 n c z0) (hn : n ≤ 1048576) (he : 0 ≤ e) :
    Calls Try.prog 4 #[.slice a0 n c, .bool true, .int .u64 e] w fun e w' => e = .returned (.bool true) ∧ Below w.heap.size w w' := by
  have q26 : ∀ (w : World) (a : Option Addr) (n c n' c' : Nat), (binOp .eql 26 (.slice a n c) (.slice none n' c')).run Try.prog w = .ok (.bool a.isNone) w := fun w a n c n' c' => Lib.run_eql_slice_nil w _ _ a n c n' c' Try.underlying26
  have h1 : (n : Int) ≤ 1048576 := by omega
  go_enter Try.func4, Try.ntmps4
  go_wp2_with (go_at_call 8; refine (bytes_yes _ _ _ _ _ _ hn).mono ?_; rintro e w' ⟨rfl, rfl⟩)
  refine (clone_uni a0 n c z0 w w0 hn).mono ?_
  rintro r w1 ⟨ra, rfl, hra, hc, hbel⟩
  go_wp2_with fail
  refine (fixed_short ra n n true e w1 hn he (fun h => by cases h)).mono ?_
  rintro r w2 ⟨rfl, hbel2⟩
  have hsz := hbel.size
  go_wp2_with fail
  refine (same_any ra w.heap.size n n (fun i => z0.getD i 0) w2 hn hra (fun i hi => ?_)).mono ?_
  · exact (hbel2.cell (p := ⟨w.heap.size, i, none⟩) (World.block_lt_of_cell? _ _ (hc i hi))).trans (hc i hi)
  rintro r w3 ⟨rfl, k, rfl⟩
  go_wp2
  go_ret
  exact ⟨ret_bool (by simp), below_drewN (hbel.trans (hbel2.mono hsz)) _⟩

/-- Too few bytes. -/
theorem walk_few (a0 : Option Addr) (n c : Nat) (z0 : List Int) (e : Int) (w : World) (w0 : IsRow .u8 w a0 n c z0) (hn : n ≤ 1048576) (he : 0 ≤ e) (hlt : (n : Int) < e) :
    Calls Try.prog 4 #[.slice a0 n c, .bool false, .int .u64 e] w fun e w' => e = .returned (.bool true) ∧ Below w.heap.size w w' := by
  have q26 : ∀ (w : World) (a : Option Addr) (n c n' c' : Nat), (binOp .eql 26 (.slice a n c) (.slice none n' c')).run Try.prog w = .ok (.bool a.isNone) w := fun w a n c n' c' => Lib.run_eql_slice_nil w _ _ a n c n' c' Try.underlying26
  have h1 : (n : Int) ≤ 1048576 := by omega
  go_enter Try.func4, Try.ntmps4
  go_wp2_with (go_at_call 8; refine (bytes_yes _ _ _ _ _ _ hn).mono ?_; rintro e w' ⟨rfl, rfl⟩)
  refine (clone_uni a0 n c z0 w w0 hn).mono ?_
  rintro r w1 ⟨ra, rfl, hra, hc, hbel⟩
  go_wp2_with fail
  refine (fixed_short ra n n false e w1 hn he (fun _ => hlt)).mono ?_
  rintro r w2 ⟨rfl, hbel2⟩
  have hsz := hbel.size
  go_wp2_with fail
  refine (same_any ra w.heap.size n n (fun i => z0.getD i 0) w2 hn hra (fun i hi => ?_)).mono ?_
  · exact (hbel2.cell (p := ⟨w.heap.size, i, none⟩) (World.block_lt_of_cell? _ _ (hc i hi))).trans (hc i hi)
  rintro r w3 ⟨rfl, k, rfl⟩
  go_wp2
  go_ret
  exact ⟨ret_bool (by simp), below_drewN (hbel.trans (hbel2.mono hsz)) _⟩

/-- Some are left. -/
theorem walk_some (a0 : Option Addr) (n c e : Nat) (z0 : List Int) (w : World) (w0 : IsRow .u8 w a0 n c z0) (hn : n ≤ 1048576) (he : e < n) :
    Calls Try.prog 4 #[.slice a0 n c, .bool false, .int .u64 e] w fun e w' => e = .returned (.bool true) ∧ Below w.heap.size w w' := by
  have h1 : (n : Int) ≤ 1048576 := by omega
  have h2 : (e : Int) < (n : Int) := by omega
  go_enter Try.func4, Try.ntmps4
  go_wp2_with (go_at_call 8; refine (bytes_yes _ _ _ _ _ _ hn).mono ?_; rintro e w' ⟨rfl, rfl⟩)
  refine (clone_uni a0 n c z0 w w0 hn).mono ?_
  rintro r w1 ⟨ra, rfl, hra, hc, hbel⟩
  go_wp2_with fail
  refine (fixed_fit ra n e w1 hn he).mono ?_
  rintro r w2 ⟨rfl, hbel2⟩
  have hsz := hbel.size
  obtain rfl := hra (by omega)
  obtain ⟨m, rfl⟩ : ∃ m, n = e + m := ⟨n - e, by omega⟩
  go_wp2_with fail
  refine (concat_any _ _ _ w.heap.size e m _ _ _ (fun i => z0.getD i 0) w2 hn (fun _ => rfl) (fun _ => rfl) (fun _ => rfl) (fun i hi => ?_)).mono ?_
  · exact (hbel2.cell (p := ⟨w.heap.size, i, none⟩) (World.block_lt_of_cell? _ _ (hc i hi))).trans (hc i hi)
  rintro r w3 ⟨rfl, k, rfl⟩
  go_wp2
  go_ret
  exact ⟨ret_bool (by simp), below_drewN (hbel.trans (hbel2.mono hsz)) _⟩

/-- All are read. -/
theorem walk_all (a0 : Option Addr) (n c : Nat) (z0 : List Int) (w : World) (w0 : IsRow .u8 w a0 n c z0) (hn : n ≤ 1048576) :
    Calls Try.prog 4 #[.slice a0 n c, .bool false, .int .u64 n] w fun e w' => e = .returned (.bool true) ∧ Below w.heap.size w w' := by
  have h1 : (n : Int) ≤ 1048576 := by omega
  go_enter Try.func4, Try.ntmps4
  go_wp2_with (go_at_call 8; refine (bytes_yes _ _ _ _ _ _ hn).mono ?_; rintro e w' ⟨rfl, rfl⟩)
  refine (clone_uni a0 n c z0 w w0 hn).mono ?_
  rintro r w1 ⟨ra, rfl, hra, hc, hbel⟩
  go_wp2_with fail
  refine (fixed_all ra n w1 hn).mono ?_
  rintro r w2 ⟨a', rfl, hbel2⟩
  have hsz := hbel.size
  go_wp2_with fail
  refine (concat_any ra a' ra w.heap.size n 0 n 0 n (fun i => z0.getD i 0) w2 hn hra (fun h => absurd h (by omega)) hra (fun i hi => ?_)).mono ?_
  · exact (hbel2.cell (p := ⟨w.heap.size, i, none⟩) (World.block_lt_of_cell? _ _ (hc i hi))).trans (hc i hi)
  rintro r w3 ⟨rfl, k, rfl⟩
  go_wp2
  go_ret
  exact ⟨ret_bool (by simp), below_drewN (hbel.trans (hbel2.mono hsz)) _⟩

theorem walk (a0 : Option Addr) (len0 cap0 : Nat) (z0 : List Int) (a1 : Bool) (a2 : Int) (w : World) (w0 : IsRow .u8 w a0 len0 cap0 z0) (w2 : (Lit.int .u64 a2).wf = true) :
    Calls Try.prog 4 #[.slice a0 len0 cap0, .bool a1, .int .u64 a2] w fun e w' => e = .returned (.bool true) ∧ Below w.heap.size w w' := by
  have hb : 0 ≤ a2 := by
    simp [Lit.wf, IntKind.min, IntKind.max, IntKind.signed, IntKind.bits] at w2
    omega
  by_cases h : len0 ≤ 1048576
  · cases a1
    · by_cases hlt : (len0 : Int) < a2
      · exact walk_few a0 len0 cap0 z0 a2 w w0 h hb hlt
      · obtain ⟨e, rfl⟩ : ∃ e : Nat, a2 = (e : Int) := ⟨a2.toNat, by omega⟩
        by_cases he : e = len0
        · subst he
          exact walk_all a0 e cap0 z0 w w0 h
        · exact walk_some a0 len0 cap0 e z0 w w0 h (by omega)
    · exact walk_short a0 len0 cap0 z0 a2 w w0 h hb
  · exact (walk_out a0 len0 cap0 a1 a2 w h).mono fun e w' ⟨he, hw⟩ => ⟨he, hw ▸ Below.refl _ _⟩

/-! ### THE ROW's STEP: WRITTEN OUT: LEAVE IT -/
set_option maxRecDepth 100000 in
theorem lifted (os : Os) (started : os.Started) (H : Type) (enc : TypeId × Value → H) :
    ReturnsInHanded {} Try.checked os 4 .any (Rows.fnDecoderFixedWholeSpec.pre6 enc Try.prog Try.f4 Rows.fnDecoderFixedWholeRow.domain false) (Rows.fnDecoderFixedWholeSpec.post enc Try.prog Try.f4 false true false false) := by
  refine returnsInHanded_of_change (C := Try.checked) own started (by kernel_rfl) Try.func4
    (ChangeSpec.witness6 (enc := enc) (C := Try.checked) false ⟨#[], #[.slice none 0 0, .bool false, .int .u64 0], []⟩ 8 (by kernel_rfl) (by kernel_rfl) (by kernel_rfl) (by kernel_rfl)) ?_
  intro W base args ds gs before hval0 hW hcnd _
  have hval : ∀ (j : Nat) t v, Try.f4.params[j]? = some t → args[j]? = some v → Value.okWide Try.prog W .any base t v := hval0
  have hW' := hW
  obtain ⟨p, q, hA0, hV, rfl, hfz, hnd⟩ := hW
  have hA : DataW.TrodAll enc Try.prog W 0 (fun _ => true) true Try.f4.params.toList args.toList ds p := hA0
  rw [Try.params4] at hA hval
  obtain ⟨v0, vs0, d0, ds0, p0, q0, hargs, rfl, rfl, h0, r0⟩ := trodAll_cons hA
  obtain ⟨v1, vs1, d1, ds1, p1, q1, rfl, rfl, rfl, h1, r1⟩ := trodAll_cons r0
  obtain ⟨v2, vs2, d2, ds2, p2, q2, rfl, rfl, rfl, h2, r2⟩ := trodAll_cons r1
  obtain ⟨rfl, rfl, rfl⟩ := trodAll_nil r2
  obtain rfl : args = #[v0, v1, v2] := by cases args; simp_all
  obtain ⟨rfl, rfl⟩ := trodVars_none hV
  obtain ⟨a0, len0, cap0, rfl⟩ := okWide_slice Try.underlying26 (hval 0 26 v0 rfl rfl)
  have k0 := h0
  have lt0 : ∀ x ∈ p0, x.block < W.heap.size := by obtain ⟨m, hm⟩ := k0; exact DataW.trod_lt m _ _ _ hm
  obtain ⟨z0, w0⟩ : ∃ zs, IsRow .u8 W a0 len0 cap0 zs := by
    obtain ⟨fuel, hf⟩ := h0
    rcases open_ints Try.underlying26 Try.underlying5 (by kernel_rfl) hf with ⟨hcs, _⟩ | ⟨x, l, c, zs, hcs, _, hl, hm, hz, _, hcell, hwz⟩
    · simp [Value.cells] at hcs
      obtain ⟨rfl, rfl, rfl⟩ := hcs
      exact ⟨[], .inl ⟨rfl, rfl, rfl, rfl⟩⟩
    · simp [Value.cells] at hcs
      obtain ⟨rfl, rfl, rfl⟩ := hcs
      exact ⟨zs, .inr ⟨_, rfl, hl, hm, by simpa using hz, hcell, hwz⟩⟩
  obtain ⟨a1, rfl, rfl, rfl⟩ := open_bool Try.underlying4 (hval 1 4 v1 rfl rfl) h1
  obtain ⟨a2, rfl, rfl, rfl, w2⟩ := open_int Try.underlying27 (hval 2 27 v2 rfl rfl) h2
  clear hA0 hval0
  refine (walk a0 len0 cap0 z0 a1 a2 W w0 w2).mono fun e W' ⟨he, bel⟩ => ?_
  subst he
  exact ⟨_, rfl, _, _, _, [], _, [], hW', trodAll_mk1 (shut_bool Try.underlying4 _), (trodAll_cons_mk (Below.trod laidOut (by kernel_rfl) (of_decide_eq_true (by kernel_rfl)) k0 bel lt0) (trodAll_cons_mk (shut_bool Try.underlying4 _) (trodAll_cons_mk (shut_int Try.underlying27 w2) trodAll_mk0))), rfl, bel.frame _, fun h => by cases h⟩

theorem over : Rows.fnDecoderFixedWholeRow.holds Try.pinned (OpenSpec.ofChange Rows.fnDecoderFixedWholeSpec) :=
  OpenClaim.holds_of_wide 4 Try.f4 rfl rfl rfl rfl rfl rfl rfl ⟨rfl, rfl, rfl, rfl, rfl⟩ rfl rfl rfl rfl rfl (by kernel_rfl) Try.func4 (by kernel_rfl)
    (of_decide_eq_true (by kernel_rfl)) (by unfold Func.isWrapper; first | (rw [if_pos (by decide +kernel)]; kernel_rfl) | (rw [if_neg (by decide +kernel)]; exact ⟨rfl, rfl⟩))
    (fun os started H enc _ => lifted os started H enc)

/-- ████ THE STATEMENT ████ -/
theorem proved : Rows.FnDecoderFixedWholeSaid := over
#print axioms proved
end Go.Proofs.Qxb6602208a.fnDecoderFixedWhole
