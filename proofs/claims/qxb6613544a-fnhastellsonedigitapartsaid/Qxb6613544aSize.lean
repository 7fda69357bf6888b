/-
  The contract of the size test: it answers some bool, and makes one block.
-/
import Derived.Test.Qxb6613544aHas
namespace Go.Proofs.Qxb6613544a
open Go.RowKit

/-- It returned some bool. -/
def SomeBool (e : Ending) : Prop := ∃ b : Bool, e = .returned (.bool b)

set_option maxRecDepth 100000 in
set_option maxHeartbeats 1000000 in
theorem size_any (a : Option Addr) (len cap : Nat) (q : List Int) (i d : Int) (w : World) :
    Calls Try.prog 20 #[.slice a len cap, .agg (cs q).toArray, .int .i64 i, .int .i64 d] w fun e w' => SomeBool e ∧ w.grownBy w' none := by
  by_cases h1 : len ≤ 1048576
  · go_enter Try.func20, Try.ntmps20
    go_wp2
    go_loop [9, 10] (fun z i => ∃ (k : Nat) (n : Int), k ≤ len ∧ i = .int .i64 k ∧ z = .int .i64 n ∧ 0 ≤ n ∧ n ≤ 1048576) (fun _ i => len - (intOf i).toNat)
    case atStart => exact ⟨0, _, Nat.zero_le _, rfl, rfl, by omega, by omega⟩
    case round =>
      obtain ⟨k, n, hk, rfl, rfl, n0, n1⟩ := hrel
      by_cases hlt : k < len
      · by_cases hn : n + 20 ≤ 1048576
        · go_wp2
          go_round
          case rel => exact ⟨k + 1, _, by omega, by go_num, rfl, by omega, by omega⟩
          case measure => simp [intOf]; omega
        · go_wp2
          go_ret
          exact ⟨⟨_, rfl⟩, World.grownBy_alloc w _ _⟩
      · go_wp2
        go_ret
        exact ⟨⟨_, rfl⟩, World.grownBy_alloc w _ _⟩
  · go_enter Try.func20, Try.ntmps20
    go_wp2
    go_ret
    exact ⟨⟨_, rfl⟩, World.grownBy_alloc w _ _⟩
end Go.Proofs.Qxb6613544a
