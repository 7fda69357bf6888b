/-
  The walk of 'FnHasTellsOneDigitApart': an empty slice of IDs (whose address is unknown), and the ways that end early.
-/
import Derived.Test.Qxb6613544aLaw
namespace Go.Proofs.Qxb6613544a
open Go.RowKit

set_option maxRecDepth 100000 in
set_option maxHeartbeats 1000000 in
theorem law_nil (ad : Option Addr) (len cap : Nat) (hl0 : Hid (len = 0)) (q : List Int) (hq : Good q) (i d : Int) (h0 : 0 ≤ i) (h1 : i < 40) (d0 : 0 ≤ d) (d1 : d < 16) (w : World) (hlen : len ≤ 32768) :
    Calls Try.prog 4 #[.slice ad len cap, .agg (cs q).toArray, .int .i64 i, .int .i64 d] w fun e w' => e = .returned (.bool true) ∧ w.grownBy w' none := by
  have hu38 := Try.underlying38
  have hi38 : (Try.prog.info? 38).map (·.size) = some (cs q).length := by rw [cs_length, hq.1]; exact info38
  go_enter Try.func4, Try.ntmps4
  go_wp2_with (refine wpList_load_mid rfl 38 (.tmp 5) rfl w.heap.size 0 rfl (cs q) _ (range0 w q _) hu38 rfl hi38 ?_)
  refine (size_any _ _ _ _ _ _ _).mono ?_
  rintro e w1 ⟨⟨bb, rfl⟩, g1⟩
  have gw : w.grownBy (w.alloc (.cells (cs q).toArray 38)) none := World.grownBy_alloc w _ _
  obtain ⟨w0, hw0⟩ : ∃ w0, w0 = w.alloc (.cells (cs q).toArray 38) := ⟨_, rfl⟩
  have hq0 : w0.rangeAt w.heap.size 0 (cs q) := by rw [hw0]; exact range0 w q 38
  rw [← hw0] at g1 gw
  clear hw0
  cases bb
  · go_wp2
    go_ret
    exact ⟨rfl, gw.trans g1⟩
  · go_wp2_with fail
    refine (new_any _).mono ?_
    rintro e w2 ⟨rfl, hw2⟩
    have hst : St w0 w2 (w1.heap.size + 1) w1.heap.size 0 (fun _ => False) := by rw [hw2]; exact St.made g1
    have hbm : w0.heap.size ≤ w1.heap.size := g1.size
    clear hw2 g1
    go_wp2
    go_loopw [40] (fun i wr => ∃ k : Nat, k ≤ len ∧ i = .int .i64 k ∧ St w0 wr (w1.heap.size + 1) w1.heap.size k (fun _ => False)) (fun i _ => len - (intOf i).toNat)
    case atStart => exact ⟨0, Nat.zero_le _, rfl, by simpa using hst⟩
    case round =>
      obtain ⟨k, hk, rfl, hs⟩ := hrel
      clear hst
      by_cases hlt : k < len
      · exact absurd hlt (by have := hl0.out; omega)
      · have hkl : k = len := by omega
        subst hkl
        have hqr := hs.range hq0
        go_wp2_with (refine wpList_load_mid rfl 38 (.tmp 5) rfl w.heap.size 0 rfl (cs q) _ hqr hu38 rfl hi38 ?_)
        refine (put_st q hq hs (by unfold maxLen; omega) hbm).mono ?_
        rintro e w3 ⟨rfl, hs3⟩
        clear hs hqr
        have hqr := hs3.range hq0
        go_wp2_with (refine wpList_load_mid rfl 38 (.tmp 5) rfl w.heap.size 0 rfl (cs q) _ hqr hu38 rfl hi38 ?_)
        refine (with_st q hq i d h0 h1 d0 d1 hs3).mono ?_
        rintro e w4 ⟨rfl, hs4⟩
        clear hs3 hqr
        have hvg := wd_good hq h0 h1 d0 d1
        have hi39 : (Try.prog.info? 39).map (·.size) = some (cs (wd q i d)).length := by rw [cs_length, hvg.1]; exact info39
        have hi39' : (Try.prog.info? 39).map (·.size) = some (cs (wd q i d)).toArray.size := by simpa using hi39
        have h1c := cs_one (wd q i d)
        go_wp2_with (first
          | refine wpList_store_mid rfl 39 (.tmp 11) (.tmp 56) rfl w4.heap.size 0 (cs (wd q i d)).toArray rfl rfl (there1 w4 _ rfl _ hvg.1) hi39' h1c ?_
          | refine wpList_load_mid rfl 38 (.tmp 5) rfl w.heap.size 0 rfl (cs q) _ (qr5 hs4 hq0 _ _) hu38 rfl hi38 ?_)
        refine (digit_v q hq i h0 h1 (wd q i d) hvg.1 _ rfl hs4).mono ?_
        rintro e w6 ⟨rfl, w5, hs5, hv5, hs6⟩
        clear hs4 hi39' h1c
        have hq5 := hs5.range hq0
        have gw5 := gw.trans hs5.grown
        clear hs5 hq0 gw hbm hk hlt
        go_wp2
        go_loopw [64, 12] (fun i' b' wr => ∃ (m : Nat) (bw : Bool), m ≤ k ∧ i' = .int .i64 m ∧ b' = .bool bw ∧ Hid (bw = true ↔ d = dg q i) ∧ St w5 wr (w1.heap.size + 1) w1.heap.size (k + 1) (fun l' => l' = q ∨ False)) (fun i' _ _ => k - (intOf i').toNat)
        case atStart => exact ⟨0, _, Nat.zero_le _, rfl, rfl, by unfold Hid; simp, hs6⟩
        case round =>
          obtain ⟨m, bw, hm, rfl, rfl, hbw, hs⟩ := hrel
          clear hs6
          by_cases hlt : m < k
          · exact absurd hlt (by have := hl0.out; omega)
          · have hmk : m = k := by omega
            subst hmk
            have hqr := hs.range hq5
            have hvr := hs.range hv5
            go_wp2_with (refine wpList_load_mid rfl 38 (.tmp 5) rfl w.heap.size 0 rfl (cs q) _ hqr hu38 rfl hi38 ?_)
            refine (has_st q hq hs true (by simp)).mono ?_
            rintro e w7 ⟨rfl, hs7⟩
            clear hs hqr hvr
            have hvr := hs7.range hv5
            go_wp2_with (refine wpList_load_want (by rfl) 39 (.tmp 11) rfl w4.heap.size 0 rfl (cs (wd q i d)) _ hvr Try.underlying39 rfl hi39 ?_)
            refine (has_st (wd q i d) hvg hs7 bw (by rw [hbw.out, wd_eq hq h0 h1]; simp)).mono ?_
            rintro e w8 ⟨rfl, hs8⟩
            go_wp2
            go_ret
            exact ⟨by simp, gw5.trans hs8.grown⟩

set_option maxRecDepth 100000 in
set_option maxHeartbeats 1000000 in
theorem law_early (ad : Option Addr) (len cap : Nat) (q : List Int) (hq : Good q) (i d : Int) (w : World) (h : 32768 < len ∨ i < 0 ∨ 40 ≤ i ∨ d < 0 ∨ 16 ≤ d) :
    Calls Try.prog 4 #[.slice ad len cap, .agg (cs q).toArray, .int .i64 i, .int .i64 d] w fun e w' => e = .returned (.bool true) ∧ w.grownBy w' none := by
  have hu38 := Try.underlying38
  have hi38 : (Try.prog.info? 38).map (·.size) = some (cs q).length := by rw [cs_length, hq.1]; exact info38
  go_enter Try.func4, Try.ntmps4
  go_wp2_with (refine wpList_load_mid rfl 38 (.tmp 5) rfl w.heap.size 0 rfl (cs q) _ (range0 w q _) hu38 rfl hi38 ?_)
  refine (size_any _ _ _ _ _ _ _).mono ?_
  rintro e w1 ⟨⟨bb, rfl⟩, g1⟩
  have g := (World.grownBy_alloc w _ _).trans g1
  clear g1
  cases bb
  · go_wp2
    go_ret
    exact ⟨rfl, g⟩
  · by_cases hl : 32768 < len
    · go_wp2
      go_ret
      exact ⟨rfl, g⟩
    · by_cases hi : i < 0
      · go_wp2
        go_ret
        exact ⟨rfl, g⟩
      · by_cases hi' : 40 ≤ i
        · go_wp2
          go_ret
          exact ⟨rfl, g⟩
        · by_cases hd : d < 0
          · go_wp2
            go_ret
            exact ⟨rfl, g⟩
          · have hd' : 16 ≤ d := by omega
            go_wp2
            go_ret
            exact ⟨rfl, g⟩
end Go.Proofs.Qxb6613544a
