import Derived.Test.Qxb6602166aRows
import Derived.Test.Qxb6602166aPlain
import Derived.Test.Qxb6602166aWalkB
import Derived.WalkKit
import Derived.Below
import Derived.WalkSmall
import Derived.Deep.OwnRows
import Derived.Deep.LoopGhost
import Derived.Deep.QuietTactic
import Derived.BigQuiet
import Derived.Deep.Light
namespace Go.Proofs.Qxb6602166a
open Go.RowKit Plain

def curF (v : Value) (at_ : Int) : Nat → Value := fun i => if i = 0 then v else .int .i64 at_

/-- A cursor's block, the text that it reads, and that nothing below it has turned since w0. -/
structure Cur (w0 : World) (cb b n c : Nat) (f : Nat → Int) (q : Int) (w : World) : Prop where
  below : Below cb w0 w
  row : w.rowIs cb 36 2 (curF (.slice (some ⟨b, 0, none⟩) n c) q)
  text : w.rowIs b 5 n (fun i => .int .u8 (f i))
  lt : b < cb

theorem Cur.drewN {w0 w : World} {cb b n c : Nat} {f : Nat → Int} {q : Int} (h : Cur w0 cb b n c f q w) (k : Nat) : Cur w0 cb b n c f q (w.drewN k) :=
  ⟨below_drewN h.below k, h.row.of_block rfl, h.text.of_block rfl, h.lt⟩

theorem Cur.put {w0 w : World} {cb b n c : Nat} {f : Nat → Int} {q : Int} (h : Cur w0 cb b n c f q w) (q' : Int) : Cur w0 cb b n c f q' (w.setCell ⟨cb, 1, none⟩ (.int .i64 q')) := by
  refine ⟨h.below.setCell (Nat.le_refl _) _, (h.row.set 1 _).congr (fun i hi => ?_), h.text.setOther (by have := h.lt; show b ≠ cb; omega) _, h.lt⟩
  unfold curF
  by_cases e : i = 1
  · subst e; simp
  · rw [if_neg e]
    have : i = 0 := by omega
    subst this
    simp

theorem Cur.eq {w0 w : World} {cb b n c : Nat} {f : Nat → Int} {q q' : Int} (h : Cur w0 cb b n c f q w) (e : q = q') : Cur w0 cb b n c f q' w := e ▸ h

theorem Cur.c0 {w0 w : World} {cb b n c : Nat} {f : Nat → Int} {q : Int} (h : Cur w0 cb b n c f q w) : w.cell? ⟨cb, 0, none⟩ = some (.slice (some ⟨b, 0, none⟩) n c) := h.row.cell (i := 0) (by omega)
theorem Cur.c1 {w0 w : World} {cb b n c : Nat} {f : Nat → Int} {q : Int} (h : Cur w0 cb b n c f q w) : w.cell? ⟨cb, 1, none⟩ = some (.int .i64 q) := h.row.cell (i := 1) (by omega)
theorem Cur.z1 {w0 w : World} {cb b n c : Nat} {f : Nat → Int} {q : Int} (h : Cur w0 cb b n c f q w) : w.frozen? ⟨cb, 1, none⟩ = false := h.row.frozen 1
theorem Cur.tx {w0 w : World} {cb b n c : Nat} {f : Nat → Int} {q : Int} (h : Cur w0 cb b n c f q w) {i : Nat} (hi : i < n) : w.cell? ⟨b, i, none⟩ = some (.int .u8 (f i)) := h.text.cell hi

set_option maxHeartbeats 1000000 in
theorem skipString_any (w0 : World) (cb b n c p D : Nat) (f : Nat → Int) (w : World) (hn : n ≤ 1048576) (hD : StrEnd f n p D) (hw : Cur w0 cb b n c f p w) :
    Calls Try.prog 17 #[.pointer (some ⟨cb, 0, none⟩)] w fun r w' => r = .returned (.bool (anyB f p D)) ∧ Cur w0 cb b n c f ((p : Int) + 1 + D + 1) w' := by
  have hlim := hD.1
  have h1 := hw.c1
  have hz := hw.z1
  go_enter Try.func17, Try.ntmps17
  go_wp2
  clear h1 hz
  go_loopg [2] D (fun g e wr => ∃ d : Nat, d ≤ D ∧ g = D - d ∧ e = .bool (anyB f p d) ∧ esc f p d = false ∧ Cur w0 cb b n c f ((p : Int) + 1 + d) wr)
  case atStart => exact ⟨0, Nat.zero_le _, rfl, rfl, rfl, by simpa using hw.put ((p : Int) + 1)⟩
  case round =>
    obtain ⟨d, hd, rfl, rfl, hes, hC⟩ := hrel
    have HE : Hid (esc f p d = false) := hes
    clear hes hw
    have c0 := hC.c0
    have c1 := hC.c1
    have z1 := hC.z1
    have ct := hC.tx (i := p + 1 + d) (by omega)
    have e1 : ((p : Int) + 1 + (d : Int)).toNat = p + 1 + d := by omega
    have hz : (p : Int) + 1 + d < (n : Int) := by omega
    by_cases hdD : d = D
    · subst hdD
      have hq : (f (p + 1 + d) == 34) = true := by simpa using hD.2.1.1
      go_wp2
      go_quiet (fail)
      go_wp2
      go_ret
      exact ⟨rfl, (hC.drewN _).put _⟩
    · by_cases h92 : f (p + 1 + d) = 92
      · have hq : (f (p + 1 + d) == 34) = false := by rw [h92]; rfl
        have ht : (f (p + 1 + d) == 92) = true := by simpa using h92
        go_wp2
        go_quiet (fail)
        go_wp2
        go_quiet (fail)
        go_wp2
        go_roundg (D - (d + 2))
        case measure => go_light; omega
        case rel =>
          go_light
          have t := hD.two (d := d) (by omega) HE.out h92
          exact ⟨d + 2, t.1, rfl, by rw [any_two h92], t.2, (((hC.drewN _).put _).put _).eq (by omega)⟩
      · have hq : (f (p + 1 + d) == 34) = false := by
          have := hD.plain (d := d) (by omega) HE.out
          simpa using this
        have ht : (f (p + 1 + d) == 92) = false := by simpa using h92
        go_wp2
        go_quiet (fail)
        go_wp2
        go_quiet (fail)
        go_wp2
        go_roundg (D - (d + 1))
        case measure => go_light; omega
        case rel =>
          go_light
          exact ⟨d + 1, by omega, rfl, by rw [any_plain h92], esc_plain h92, ((hC.drewN _).put _).eq (by omega)⟩

/-- ZZNewCursor: a new block. -/
theorem new_any (a : Option Addr) (n c : Nat) (q : Int) (w : World) :
    Calls Try.prog 9 #[.slice a n c, .int .i64 q] w fun r w' => r = .returned (.pointer (some ⟨w.heap.size, 0, none⟩)) ∧ w.alloc (.cells #[.slice a n c, .int .i64 q] 36) = w' := by
  go_enter Try.func9, Try.ntmps9
  go_wp2
  go_ret
  exact ⟨rfl, rfl⟩

theorem Cur.start {w : World} {b n c : Nat} {f : Nat → Int} (q : Int) (hlt : b < w.heap.size) (ht : w.rowIs b 5 n (fun i => .int .u8 (f i))) :
    Cur w w.heap.size b n c f q (w.alloc (.cells #[.slice (some ⟨b, 0, none⟩) n c, .int .i64 q] 36)) := by
  refine ⟨(Below.refl _ _).alloc (Nat.le_refl _) _, (World.rowIs_alloc w _ 36 _ (fun i hi => ?_)), ht.alloc _, hlt⟩
  match i, hi with
  | 0, _ => rfl
  | 1, _ => rfl

theorem at_any (w0 : World) (cb b n c : Nat) (f : Nat → Int) (q : Int) (w : World) (hw : Cur w0 cb b n c f q w) :
    Calls Try.prog 11 #[.pointer (some ⟨cb, 0, none⟩)] w fun r w' => r = .returned (.int .i64 q) ∧ w = w' := by
  have h1 := hw.c1
  go_enter Try.func11, Try.ntmps11
  go_wp2
  go_ret
  exact ⟨rfl, rfl⟩

theorem zzskip_any (w0 : World) (cb b n c p D : Nat) (f : Nat → Int) (w : World) (hn : n ≤ 1048576) (hD : StrEnd f n p D) (hw : Cur w0 cb b n c f p w) :
    Calls Try.prog 10 #[.pointer (some ⟨cb, 0, none⟩)] w fun r w' => r = .returned (.bool (anyB f p D)) ∧ Cur w0 cb b n c f ((p : Int) + 1 + D + 1) w' := by
  go_enter Try.func10, Try.ntmps10
  go_wp2_with (go_at_call 17; refine (skipString_any w0 cb b n c p D f _ hn hD hw).mono ?_; rintro e w1 ⟨rfl, hC⟩)
  go_ret
  exact ⟨rfl, hC⟩
end Go.Proofs.Qxb6602166a
