/-
  The contracts of 'paddedOf', 'sameAt' and of the size test.
-/
import Derived.Test.Qxb6613998aBase
import Derived.RegionTactic
import Derived.BigRegion
namespace Go.Proofs.Qxb6613998a
open Go.RowKit

theorem kept_cell {w wr : World} (h : Kp (fun _ => False) w wr) {a : Addr} {v : Value} (hc : w.cell? a = some v) : wr.cell? a = some v :=
  (World.cell?_of_block (w := w) (h.block a.block (World.block_lt_of_cell? w a hc) (by simp))).trans hc

set_option maxHeartbeats 1000000 in
theorem padded_core (gr ga N n cr ca : Nat) (X : Nat → Int) (h1 : n ≤ N) (h2 : N % 4 = 0) (h3 : N < n + 4) (h4 : N ≤ 1048576) (w : World)
    (hr : ∀ j, j < n → w.cell? ⟨gr, j, none⟩ = some (.int .u8 (X j))) (ha : ∀ j, j < n → w.cell? ⟨ga, j, none⟩ = some (.int .u8 (X j))) (h0 : ∀ j, n ≤ j → j < N → w.cell? ⟨gr, j, none⟩ = some (.int .u8 0)) :
    Calls Try.prog 11 #[.slice (some ⟨gr, 0, none⟩) N cr, .slice (some ⟨ga, 0, none⟩) n ca] w fun e w' => e = .returned (.bool true) ∧ Kp (fun _ => False) w w' := by
  go_enter Try.func11, Try.ntmps11
  go_wp2
  go_loopw [5] (fun i wr => ∃ k : Nat, k ≤ n ∧ i = .int .i64 k ∧ Kp (fun _ => False) w wr) (fun i _ => n - (intOf i).toNat)
  case atStart => exact ⟨0, Nat.zero_le _, rfl, Kp.refl _ _⟩
  case round =>
    obtain ⟨k, hk, rfl, hkp⟩ := hrel
    by_cases hlt : k < n
    · have c1 := kept_cell hkp (hr k hlt)
      have c2 := kept_cell hkp (ha k hlt)
      have hkp2 := hkp.drew
      clear hr ha h0 hkp
      go_wp2
      go_region
      go_wp2
      go_roundw
      case rel => exact ⟨k + 1, by omega, by go_num, hkp2⟩
      case measure => simp [intOf]; omega
    · clear hr ha
      obtain ⟨wo, rfl⟩ : ∃ wo : World, wo = wr := ⟨_, rfl⟩
      go_wp2
      go_loopw [6] (fun i wr => ∃ k : Nat, k ≤ N ∧ n ≤ k ∧ i = .int .i64 k ∧ Kp (fun _ => False) w wr) (fun i _ => N - (intOf i).toNat)
      case atStart => exact ⟨n, by omega, Nat.le_refl _, rfl, hkp⟩
      case round =>
        obtain ⟨m, hm, hm2, rfl, hkq⟩ := hrel
        clear hkp
        by_cases hlt2 : m < N
        · have c1 := kept_cell hkq (h0 m hm2 hlt2)
          clear h0
          go_wp2
          go_roundw
          case rel => exact ⟨m + 1, by omega, by omega, by go_num, hkq⟩
          case measure => simp [intOf]; omega
        · clear h0
          go_wp2
          go_ret
          exact ⟨rfl, hkq⟩

set_option maxHeartbeats 1000000 in
theorem padded_empty (ar aa : Option Addr) (cr ca : Nat) (w : World) :
    Calls Try.prog 11 #[.slice ar 0 cr, .slice aa 0 ca] w fun e w' => e = .returned (.bool true) ∧ Kp (fun _ => False) w w' := by
  go_enter Try.func11, Try.ntmps11
  go_wp2
  go_loopw [5] (fun i wr => i = .int .i64 0 ∧ wr = w) (fun _ _ => 0)
  case atStart => exact ⟨rfl, rfl⟩
  case round =>
    obtain ⟨rfl, rfl⟩ := hrel
    obtain ⟨wo, rfl⟩ : ∃ wo : World, wo = wr := ⟨_, rfl⟩
    go_wp2
    go_loopw [6] (fun i wr => i = .int .i64 0 ∧ wr = wo) (fun _ _ => 0)
    case atStart => exact ⟨rfl, rfl⟩
    case round =>
      obtain ⟨rfl, rfl⟩ := hrel
      go_wp2
      go_ret
      exact ⟨rfl, Kp.refl _ _⟩

theorem getD_append_left {l m : List Int} {j : Nat} (h : j < l.length) : (l ++ m).getD j 0 = l.getD j 0 := by
  simp [List.getElem?_append_left h]

theorem padded_any {w : World} {ar aa : Option Addr} {cr ca : Nat} {rs bs : List Int} {p : Nat} (hr : Row w ar cr rs) (ha : Row w aa ca bs) (e : rs = bs ++ List.replicate p 0) (h2 : (bs.length + p) % 4 = 0) (h3 : p < 4) (h4 : rs.length ≤ 1048576) :
    Calls Try.prog 11 #[.slice ar rs.length cr, .slice aa bs.length ca] w fun e w' => e = .returned (.bool true) ∧ Kp (fun _ => False) w w' := by
  have hN : rs.length = bs.length + p := by rw [e]; simp
  by_cases h0 : bs.length = 0
  · have : rs.length = 0 := by omega
    rw [h0, this]
    exact padded_empty ar aa cr ca w
  · rcases hr.shape with ⟨_, h, _⟩ | ⟨gr, rfl⟩
    · rw [h] at hN; simp at hN; omega
    rcases ha.shape with ⟨_, h, _⟩ | ⟨ga, rfl⟩
    · rw [h] at h0; simp at h0
    refine padded_core gr ga rs.length bs.length cr ca (fun j => bs.getD j 0) (by omega) (by omega) (by omega) h4 w (fun j hj => ?_) (fun j hj => ha.cell hj) (fun j hj hj' => ?_)
    · rw [hr.cell (by omega), e, getD_append_left hj]
    · rw [hr.cell hj', e]
      simp only [List.getD_eq_getElem?_getD]
      rw [List.getElem?_append_right hj]
      simp [show j - bs.length < p by omega]

set_option maxHeartbeats 1000000 in
theorem same_core (gr gx N n off cr cx : Nat) (X : Nat → Int) (h1 : off + n ≤ N) (h4 : N ≤ 4194304) (w : World)
    (hr : ∀ j, j < n → w.cell? ⟨gr, off + j, none⟩ = some (.int .u8 (X j))) (hx : ∀ j, j < n → w.cell? ⟨gx, j, none⟩ = some (.int .u8 (X j))) :
    Calls Try.prog 12 #[.slice (some ⟨gr, 0, none⟩) N cr, .int .i64 off, .slice (some ⟨gx, 0, none⟩) n cx] w fun e w' => e = .returned (.bool true) ∧ Kp (fun _ => False) w w' := by
  go_enter Try.func12, Try.ntmps12
  go_wp2
  go_loopw [7] (fun i wr => ∃ k : Nat, k ≤ n ∧ i = .int .i64 k ∧ Kp (fun _ => False) w wr) (fun i _ => n - (intOf i).toNat)
  case atStart => exact ⟨0, Nat.zero_le _, rfl, Kp.refl _ _⟩
  case round =>
    obtain ⟨k, hk, rfl, hkp⟩ := hrel
    by_cases hlt : k < n
    · have c1 := kept_cell hkp (hr k hlt)
      have c2 := kept_cell hkp (hx k hlt)
      have hkp2 := hkp.drew
      clear hr hx hkp
      go_wp2
      go_region
      go_wp2
      go_roundw
      case rel => exact ⟨k + 1, by omega, by go_num, hkp2⟩
      case measure => simp [intOf]; omega
    · clear hr hx
      go_wp2
      go_ret
      exact ⟨rfl, hkp⟩

set_option maxHeartbeats 1000000 in
theorem same_empty (ar ax : Option Addr) (N off cr cx : Nat) (h1 : off ≤ N) (h4 : N ≤ 4194304) (w : World) :
    Calls Try.prog 12 #[.slice ar N cr, .int .i64 off, .slice ax 0 cx] w fun e w' => e = .returned (.bool true) ∧ Kp (fun _ => False) w w' := by
  go_enter Try.func12, Try.ntmps12
  go_wp2
  go_loopw [7] (fun i wr => i = .int .i64 0 ∧ wr = w) (fun _ _ => 0)
  case atStart => exact ⟨rfl, rfl⟩
  case round =>
    obtain ⟨rfl, rfl⟩ := hrel
    go_wp2
    go_ret
    exact ⟨rfl, Kp.refl _ _⟩

theorem same_any {w : World} {ar ax : Option Addr} {cr cx : Nat} {rs xs pre post : List Int} (hr : Row w ar cr rs) (hx : Row w ax cx xs) (e : rs = pre ++ xs ++ post) (h4 : rs.length ≤ 4194304) :
    Calls Try.prog 12 #[.slice ar rs.length cr, .int .i64 pre.length, .slice ax xs.length cx] w fun e w' => e = .returned (.bool true) ∧ Kp (fun _ => False) w w' := by
  have hN : rs.length = pre.length + xs.length + post.length := by rw [e]; simp; omega
  by_cases h0 : xs.length = 0
  · rw [h0]
    exact same_empty ar ax rs.length pre.length cr cx (by omega) h4 w
  · rcases hr.shape with ⟨_, h, _⟩ | ⟨gr, rfl⟩
    · rw [h] at hN; simp at hN; omega
    rcases hx.shape with ⟨_, h, _⟩ | ⟨gx, rfl⟩
    · rw [h] at h0; simp at h0
    refine same_core gr gx rs.length xs.length pre.length cr cx (fun j => xs.getD j 0) (by omega) h4 w (fun j hj => ?_) (fun j hj => hx.cell hj)
    rw [hr.cell (by omega), e]
    simp only [List.getD_eq_getElem?_getD]
    rw [List.getElem?_append_left (by simp; omega), List.getElem?_append_right (by omega)]
    simp

/-- It returned some bool. -/
def SomeBool (e : Ending) : Prop := ∃ b : Bool, e = .returned (.bool b)

set_option maxHeartbeats 1000000 in
theorem size_any (a0 a1 a2 : Option Addr) (n0 n1 n2 c0 c1 c2 : Nat) (w : World) :
    Calls Try.prog 6 #[.slice a0 n0 c0, .slice a1 n1 c1, .slice a2 n2 c2] w fun e w' => SomeBool e ∧ w' = w := by
  by_cases h0 : n0 ≤ 1048576
  · by_cases h1 : n1 ≤ 1048576
    · by_cases h1' : n0 + n1 ≤ 1048576
      · by_cases h2 : n2 ≤ 1048576
        · by_cases h2' : n0 + n1 + n2 ≤ 1048576
          · go_enter Try.func6, Try.ntmps6
            go_wp2
            go_ret
            exact ⟨⟨_, rfl⟩, rfl⟩
          · go_enter Try.func6, Try.ntmps6
            go_wp2
            go_ret
            exact ⟨⟨_, rfl⟩, rfl⟩
        · go_enter Try.func6, Try.ntmps6
          go_wp2
          go_ret
          exact ⟨⟨_, rfl⟩, rfl⟩
      · go_enter Try.func6, Try.ntmps6
        go_wp2
        go_ret
        exact ⟨⟨_, rfl⟩, rfl⟩
    · go_enter Try.func6, Try.ntmps6
      go_wp2
      go_ret
      exact ⟨⟨_, rfl⟩, rfl⟩
  · go_enter Try.func6, Try.ntmps6
    go_wp2
    go_ret
    exact ⟨⟨_, rfl⟩, rfl⟩

end Go.Proofs.Qxb6613998a
