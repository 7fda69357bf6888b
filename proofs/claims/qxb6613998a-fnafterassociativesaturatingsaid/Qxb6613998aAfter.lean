/-
  Contracts of 'ZZafter' and 'satAdd': both give the sum held at the largest int64.
-/
import Derived.Test.Qxb6613998aRows
import Derived.WalkKit
import Derived.WalkSpells
import Derived.WalkLawsBesides
namespace Go.Proofs.Qxb6613998a
open Go.RowKit

/-- The sum, held at the largest int64. -/
def sat (t d : Int) : Int := if d ≤ 9223372036854775807 - t then t + d else 9223372036854775807

theorem sat_lo {t d : Int} (h : d ≤ 9223372036854775807 - t) : sat t d = t + d := if_pos h
theorem sat_hi {t d : Int} (h : ¬ d ≤ 9223372036854775807 - t) : sat t d = 9223372036854775807 := if_neg h
theorem sat_bd {t d : Int} (h0 : 0 ≤ t) (h1 : 0 ≤ d) (h2 : t ≤ 9223372036854775807) : 0 ≤ sat t d ∧ sat t d ≤ 9223372036854775807 := by
  unfold sat; split <;> omega

theorem wf_bd {x : Int} (h : (Lit.int .i64 x).wf = true) : -9223372036854775808 ≤ x ∧ x ≤ 9223372036854775807 := by
  simp [Lit.wf, IntKind.min, IntKind.max, IntKind.signed, IntKind.bits] at h
  exact ⟨by omega, by omega⟩

theorem ret_int {k : IntKind} {a b : Int} (h : a = b) : Ending.returned (.int k a) = .returned (.int k b) := by rw [h]

set_option maxHeartbeats 400000 in
theorem after_any (t d : Int) (h0 : 0 ≤ t) (h1 : 0 ≤ d) (h2 : t ≤ 9223372036854775807) (h3 : d ≤ 9223372036854775807) (w : World) :
    Calls Try.prog 14 #[.int .i64 t, .int .i64 d] w fun e w' => e = .returned (.int .i64 (sat t d)) ∧ w' = w := by
  by_cases c : d ≤ 9223372036854775807 - t
  · rw [sat_lo c]
    go_enter Try.func14, Try.ntmps14
    go_wp2
    go_ret
    exact ⟨rfl, rfl⟩
  · rw [sat_hi c]
    go_enter Try.func14, Try.ntmps14
    go_wp2
    go_ret
    exact ⟨ret_int (by omega), rfl⟩

set_option maxHeartbeats 400000 in
theorem satAdd_any (t d : Int) (h0 : 0 ≤ t) (h1 : 0 ≤ d) (h2 : t ≤ 9223372036854775807) (h3 : d ≤ 9223372036854775807) (w : World) :
    Calls Try.prog 15 #[.int .i64 t, .int .i64 d] w fun e w' => e = .returned (.int .i64 (sat t d)) ∧ w' = w := by
  by_cases c : d ≤ 9223372036854775807 - t
  · rw [sat_lo c]
    go_enter Try.func15, Try.ntmps15
    go_wp2
    go_ret
    exact ⟨rfl, rfl⟩
  · rw [sat_hi c]
    go_enter Try.func15, Try.ntmps15
    go_wp2
    go_ret
    exact ⟨rfl, rfl⟩

theorem after_lo (t d : Int) (h0 : 0 ≤ t) (h1 : 0 ≤ d) (h2 : t ≤ 9223372036854775807) (h3 : d ≤ 9223372036854775807) (c : d ≤ 9223372036854775807 - t) (w : World) :
    Calls Try.prog 14 #[.int .i64 t, .int .i64 d] w fun e w' => e = .returned (.int .i64 (t + d)) ∧ w' = w := by
  have := after_any t d h0 h1 h2 h3 w
  rwa [sat_lo c] at this
theorem after_hi (t d : Int) (h0 : 0 ≤ t) (h1 : 0 ≤ d) (h2 : t ≤ 9223372036854775807) (h3 : d ≤ 9223372036854775807) (c : 9223372036854775807 - t < d) (w : World) :
    Calls Try.prog 14 #[.int .i64 t, .int .i64 d] w fun e w' => e = .returned (.int .i64 9223372036854775807) ∧ w' = w := by
  have := after_any t d h0 h1 h2 h3 w
  rwa [sat_hi (by omega)] at this

/-! ### the plain laws -/
theorem sat_assoc (t a b : Int) (h0 : 0 ≤ t) (h1 : 0 ≤ a) (h2 : 0 ≤ b) (k0 : t ≤ 9223372036854775807) (k1 : a ≤ 9223372036854775807) (k2 : b ≤ 9223372036854775807) :
    sat (sat t a) b = sat t (sat a b) := by
  unfold sat
  split <;> split <;> split <;> (try split) <;> omega
end Go.Proofs.Qxb6613998a
