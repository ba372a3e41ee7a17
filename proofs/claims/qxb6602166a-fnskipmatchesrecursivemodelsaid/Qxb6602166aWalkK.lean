import Derived.Test.Qxb6602166aRows
import Derived.Test.Qxb6602166aPlainSkip
import Derived.Test.Qxb6602166aWalkS
import Derived.WalkKit
import Derived.Below
import Derived.WalkSmall
import Derived.Deep.OwnRows
import Derived.Deep.LoopGhost
import Derived.Deep.QuietTactic
import Derived.BigQuiet
import Derived.Deep.Light
namespace Go.Proofs.Qxb6602166a
open Go.RowKit Plain Nest

set_option maxHeartbeats 2000000 in
theorem skip_any (w0 : World) (cb b n c p q k : Nat) (f : Nat → Int) (w : World) (hn : n ≤ 1048576) (hk : SkSteps f n k 1 p 0 q) (hw : Cur w0 cb b n c f p w) :
    Calls Try.prog 14 #[.pointer (some ⟨cb, 0, none⟩)] w fun r w' => r = .returned (.tuple #[]) ∧ Cur w0 cb b n c f q w' := by
  go_enter Try.func14, Try.ntmps14
  go_wp2
  go_loopg [2] k (fun g s wr => ∃ d t : Nat, s = .int .i64 d ∧ d ≤ t + 1 ∧ SkSteps f n g d t 0 q ∧ Cur w0 cb b n c f t wr)
  case atStart => exact ⟨1, p, rfl, by omega, hk, hw⟩
  case round =>
    obtain ⟨d, t, rfl, hdt, hst, hC⟩ := hrel
    clear hk hw
    cases gk with
    | zero =>
      obtain ⟨hd, ht⟩ := hst
      subst ht
      obtain rfl : d = 0 := hd.symm
      clear hd
      go_wp2
      go_end0
      exact ⟨rfl, hC⟩
    | succ k =>
      obtain ⟨d1, t1, ⟨hd0, htn, hcase⟩, hrest⟩ := hst
      have HS : Hid (SkSteps f n k d1 t1 0 q) := hrest
      clear hrest
      have c0 := hC.c0
      have c1 := hC.c1
      have z1 := hC.z1
      have ct := hC.tx htn
      have hz : (t : Int) < (n : Int) := by omega
      have hdz : (0 : Int) < (d : Int) := by omega
      rcases hcase with ⟨h34, hd1, D, hD, ht1⟩ | ⟨ho, hd1, ht1⟩ | ⟨ho, hd1, ht1⟩ | ⟨⟨o1, o2, o3, o4, o5⟩, hd1, ht1⟩
      · subst ht1; subst hd1
        have h1 : (f t == 34) = true := by simpa using h34
        clear h34
        go_wp2_with fail
        go_quiet (fail)
        go_wp2_with (go_at_call 17; refine (skipString_any w0 cb b n c t D f _ hn hD (hC.drewN _)).mono ?_; rintro e w1 ⟨rfl, hC1⟩)
        go_roundg k
        case measure => go_light; omega
        case rel => go_light; exact ⟨d1, t + 1 + D + 1, rfl, by omega, HS.out, hC1.eq (by omega)⟩
      · subst ht1; subst hd1
        rcases ho with ho | ho
        · have h1 : (f t == 123) = true := by simpa using ho
          have h2 : (f t == 34) = false := by rw [ho]; rfl
          clear ho
          go_wp2_with fail
          go_quiet (fail)
          go_wp2
          go_roundg k
          case measure => go_light; omega
          case rel => go_light; exact ⟨d + 1, t + 1, by go_num, by omega, HS.out, ((hC.drewN _).put _).eq (by omega)⟩
        · have h1 : (f t == 91) = true := by simpa using ho
          have h2 : (f t == 34) = false := by rw [ho]; rfl
          have h3 : (f t == 123) = false := by rw [ho]; rfl
          clear ho
          go_wp2_with fail
          go_quiet (fail)
          go_wp2
          go_roundg k
          case measure => go_light; omega
          case rel => go_light; exact ⟨d + 1, t + 1, by go_num, by omega, HS.out, ((hC.drewN _).put _).eq (by omega)⟩
      · subst ht1; subst hd1
        rcases ho with ho | ho
        · have h1 : (f t == 125) = true := by simpa using ho
          have h2 : (f t == 34) = false := by rw [ho]; rfl
          have h3 : (f t == 123) = false := by rw [ho]; rfl
          have h4 : (f t == 91) = false := by rw [ho]; rfl
          clear ho
          go_wp2_with fail
          go_quiet (fail)
          go_wp2
          go_roundg k
          case measure => go_light; omega
          case rel => go_light; exact ⟨d1, t + 1, by go_num, by omega, HS.out, ((hC.drewN _).put _).eq (by omega)⟩
        · have h1 : (f t == 93) = true := by simpa using ho
          have h2 : (f t == 34) = false := by rw [ho]; rfl
          have h3 : (f t == 123) = false := by rw [ho]; rfl
          have h4 : (f t == 91) = false := by rw [ho]; rfl
          have h5 : (f t == 125) = false := by rw [ho]; rfl
          clear ho
          go_wp2_with fail
          go_quiet (fail)
          go_wp2
          go_roundg k
          case measure => go_light; omega
          case rel => go_light; exact ⟨d1, t + 1, by go_num, by omega, HS.out, ((hC.drewN _).put _).eq (by omega)⟩
      · subst ht1; subst hd1
        have h1 : (f t == 93) = false := by simpa using o5
        have h2 : (f t == 34) = false := by simpa using o1
        have h3 : (f t == 123) = false := by simpa using o2
        have h4 : (f t == 91) = false := by simpa using o3
        have h5 : (f t == 125) = false := by simpa using o4
        clear o1 o2 o3 o4 o5
        go_wp2_with fail
        go_quiet (fail)
        go_wp2
        go_roundg k
        case measure => go_light; omega
        case rel => go_light; exact ⟨d1, t + 1, rfl, by omega, HS.out, ((hC.drewN _).put _).eq (by omega)⟩
end Go.Proofs.Qxb6602166a
