/-
  The encoder: its box, and the contract of 'fixed'.
-/
import Derived.Test.Qxb6613998aTests
namespace Go.Proofs.Qxb6613998a
open Go.RowKit

theorem ret_num {k : IntKind} {a b : Int} (h : a = b) : Ending.returned (.int k a) = .returned (.int k b) := by rw [h]

/-- How many zero bytes follow m bytes. -/
def pad (m : Nat) : Nat := (4 - m % 4) % 4
theorem pad_lt (m : Nat) : pad m < 4 := by unfold pad; omega
theorem pad_mod (m : Nat) : (m + pad m) % 4 = 0 := by unfold pad; omega

/-- The box of an encoder: a slice, and no error. -/
def Box (w : World) (E : Nat) (a : Option Addr) (n cap : Nat) : Prop := w.heap[E]? = some (.cells #[.slice a n cap, .nilIface] 37 (0, 0))

theorem Box.cell0 {w : World} {E : Nat} {a : Option Addr} {n cap : Nat} (h : Box w E a n cap) : w.cell? ⟨E, 0, none⟩ = some (.slice a n cap) := by rw [cell_of_row _ _ _ _ _ _ h]; rfl
theorem Box.cell1 {w : World} {E : Nat} {a : Option Addr} {n cap : Nat} (h : Box w E a n cap) : w.cell? ⟨E, 1, none⟩ = some .nilIface := by rw [cell_of_row _ _ _ _ _ _ h]; rfl
theorem Box.free {w : World} {E : Nat} {a : Option Addr} {n cap : Nat} (h : Box w E a n cap) : w.frozen? ⟨E, 0, none⟩ = false := frozen_of_row _ _ _ _ _ h
theorem Box.lt {w : World} {E : Nat} {a : Option Addr} {n cap : Nat} (h : Box w E a n cap) : E < w.heap.size := (Array.getElem?_eq_some_iff.1 h).1
theorem Box.kept {p : Nat → Prop} {w w' : World} {E : Nat} {a : Option Addr} {n cap : Nat} (h : Box w E a n cap) (k : Kp p w w') (hp : ¬ p E) : Box w' E a n cap := by
  unfold Box; rw [k.block E h.lt hp]; exact h
theorem Box.set {w : World} {E : Nat} {a a' : Option Addr} {n n' cap cap' : Nat} (h : Box w E a n cap) : Box (w.setCell ⟨E, 0, none⟩ (.slice a' n' cap')) E a' n' cap' := by
  unfold Box; rw [heap_setCell_same w E 0 _ 37 _ h]; rfl
/-- The box is no row of bytes. -/
theorem Box.apart {w : World} {E : Nat} {a : Option Addr} {n cap : Nat} (h : Box w E a n cap) {a' : Option Addr} {cap' : Nat} {zs : List Int} (hr : Row w a' cap' zs) : blk a' ≠ some E := by
  rcases hr.2 with ⟨hn, _⟩ | ⟨g, c, cur, hv, _, hgg, _⟩
  · injection hn with h1; rw [h1]; simp [blk]
  · injection hv with h1
    rw [h1]
    intro e
    simp [blk] at e
    subst e
    rw [h] at hgg
    simp at hgg

/-- In w', grown out of w, the encoder at E holds the bytes zs; only E, the blocks of P and new ones have been written; its row is one of P or new. -/
def EncI (p : Nat → Prop) (w w' : World) (E : Nat) (zs : List Int) : Prop :=
  ∃ a cap, Box w' E a zs.length cap ∧ Row w' a cap zs ∧ Kp p w w' ∧ ∀ k, blk a = some k → k < w.heap.size → p k

set_option maxHeartbeats 400000 in
theorem pad_any (m : Nat) (hm : m ≤ 1048576) (w : World) : Calls Try.prog 18 #[.int .i64 m] w fun e w' => e = .returned (.int .i64 (pad m)) ∧ w' = w := by
  go_enter Try.func18, Try.ntmps18
  go_wp2
  go_ret
  exact ⟨ret_num (by unfold pad; omega), rfl⟩

set_option maxHeartbeats 400000 in
theorem new_any (a : Option Addr) (n cap : Nat) (w : World) : Calls Try.prog 8 #[.slice a n cap] w fun e w' => e = .returned (.pointer (some ⟨w.heap.size, 0, none⟩)) ∧ w' = w.alloc (.cells #[.slice a n cap, .nilIface] 37) := by
  go_enter Try.func8, Try.ntmps8
  go_wp2
  go_ret
  exact ⟨rfl, rfl⟩

set_option maxHeartbeats 400000 in
theorem buf_any {w : World} {E : Nat} {a : Option Addr} {n cap : Nat} (h : Box w E a n cap) : Calls Try.prog 10 #[.pointer (some ⟨E, 0, none⟩)] w fun e w' => e = .returned (.slice a n cap) ∧ w' = w := by
  have c0 := h.cell0
  clear h
  go_enter Try.func10, Try.ntmps10
  go_wp2
  go_ret
  exact ⟨rfl, rfl⟩

set_option maxHeartbeats 400000 in
theorem err_any {w : World} {E : Nat} {a : Option Addr} {n cap : Nat} (h : Box w E a n cap) : Calls Try.prog 13 #[.pointer (some ⟨E, 0, none⟩)] w fun e w' => e = .returned (.bool true) ∧ w' = w := by
  have c1 := h.cell1
  clear h
  go_enter Try.func13, Try.ntmps13
  go_wp2
  go_ret
  exact ⟨rfl, rfl⟩

end Go.Proofs.Qxb6613998a
