/-
  The contract of '(*CertificateStore).Has': it says whether the map holds the key; it makes blocks of its own, and writes to no other.
-/
import Derived.Test.Qxb6613544aPut
namespace Go.Proofs.Qxb6613544a
open Go.RowKit
open Go.Maps (Keyed)

def zeros : List Int := [0, 0, 0, 0, 0, 0, 0, 0, 0, 0, 0, 0, 0, 0, 0, 0, 0, 0, 0, 0]
theorem good_zeros : Good zeros := ⟨rfl, by intro n hn; simp [zeros] at hn; omega⟩
theorem alloc103 (w : World) : (Instr.alloc 103 true (.tuple #[])).run Try.prog w = .ok (.pointer (some ⟨w.heap.size, 0, none⟩)) (w.alloc (.cells (certC zeros).toArray 103)) := by
  simp only [Instr.alloc, Sem.run_bind, zero103 w, Result.andThen_ok]
  rfl
theorem info103 : (Try.prog.info? 103).map (·.size) = some 29 := by kernel_rfl

theorem grown_setCells (b : Nat) : ∀ (vs : List Value) (o : Nat) (w : World), w.grownBy (w.setCells b o vs) (some b)
  | [], _, w => World.grownBy.refl w _
  | v :: r, o, w => by
    have h1 : w.grownBy (w.setCell ⟨b, o, none⟩ v) (some b) :=
      ⟨rfl, rfl, rfl, by simp [World.setCell], fun k _ hk => heap_setCell_other w ⟨b, o, none⟩ k v (fun e => hk (by rw [e]))⟩
    exact h1.trans (grown_setCells b r (o + 1) _)

theorem grown_new {w w1 w2 : World} {b : Nat} (h1 : w.grownBy w1 none) (h2 : w1.grownBy w2 (some b)) (hb : w.heap.size ≤ b) : w.grownBy w2 none :=
  ⟨h2.os.trans h1.os, h2.tape.trans h1.tape, h2.output.trans h1.output, Nat.le_trans h1.size h2.size,
   fun k hk _ => (h2.block k (Nat.lt_of_lt_of_le hk h1.size) (by simp; omega)).trans (h1.block k hk (by simp))⟩

theorem look_run {l : List Int} (hl : Good l) {bm n : Nat} {D : DataW Unit} {w : World} (hown : w.ownsMap Try.prog 39 certR bm n D) :
    ∃ c : Array Value, (Instr.lookup 84 (.map (some bm)) (.agg (cs l).toArray) true).run Try.prog w = .ok (.tuple #[.agg c, .bool (Maps.has D (K l))]) w ∧ c.size = 29 ∧ c.all (·.oneCell') = true := by
  obtain ⟨v, ps, hrun, hv⟩ := World.ownsMap.look_ok (P := Try.prog) (k := 39) (R := certR) (w := w) (b := bm) (n := n) (D := D) (t := 84) (e := 103) hown law Try.underlying84 (z := .agg (certC zeros).toArray) (zero103 w) (zd := .nil) (zp := []) (certR_mk good_zeros)
    (key := .agg (cs l).toArray) (kl := K l) (key39 hl)
  obtain ⟨c, rfl, h1, h2⟩ := certR_inv hv
  exact ⟨c, hrun, h1, h2⟩

theorem there_new (w : World) : (w.alloc (.cells (certC zeros).toArray 103)).there w.heap.size 0 29 := by
  intro j hj
  have hg := heap_alloc_new w (.cells (certC zeros).toArray 103)
  refine ⟨?_, frozen_of_row _ _ _ _ _ hg⟩
  rw [cell_of_row _ _ _ _ _ _ hg]
  have : (0 + j) < (certC zeros).toArray.size := by rw [certC_size good_zeros.1]; omega
  rw [Array.getElem?_eq_getElem this]
  rfl

set_option maxRecDepth 100000 in
set_option maxHeartbeats 1000000 in
theorem has_any (l : List Int) (hl : Good l) (sb bm n : Nat) (D : DataW Unit) (w : World) (hc : w.cell? ⟨sb, 1, none⟩ = some (.map (some bm))) (hown : w.ownsMap Try.prog 39 certR bm n D) :
    Calls Try.prog 25 #[.pointer (some ⟨sb, 0, none⟩), .agg (cs l).toArray] w fun e w' => e = .returned (.bool (Maps.has D (K l))) ∧ w.grownBy w' none := by
  have hsb : sb < w.heap.size := World.block_lt_of_cell? w ⟨sb, 1, none⟩ hc
  obtain ⟨h, hh⟩ : ∃ h, h = Maps.has D (K l) := ⟨_, rfl⟩
  obtain ⟨W, hW⟩ : ∃ W, W = (w.alloc (.cells (cs l).toArray 39)).drew := ⟨_, rfl⟩
  have hsz : W.heap.size = w.heap.size + 1 := by rw [hW]; simp
  have gW : w.grownBy W none := by rw [hW]; exact grown_drew (World.grownBy_alloc w _ _)
  obtain ⟨W2, hW2⟩ : ∃ W2, W2 = W.alloc (.cells (certC zeros).toArray 103) := ⟨_, rfl⟩
  have gW2 : W.grownBy W2 none := by rw [hW2]; exact World.grownBy_alloc W _ _
  have oW : W.ownsMap Try.prog 39 certR bm n D := hown.kept gW (by simp)
  have oW2 : W2.ownsMap Try.prog 39 certR bm n D := oW.kept gW2 (by simp)
  obtain ⟨c1, hrun1, s1, e1⟩ := look_run hl oW
  obtain ⟨c2, hrun2, s2, e2⟩ := look_run hl oW2
  rw [← hh] at hrun1 hrun2
  rw [← hh]
  have hal := alloc103 W
  rw [← hW2] at hal
  have hth : W2.there W.heap.size 0 29 := by rw [hW2]; exact there_new W
  have hcW : W.cell? ⟨sb, 1, none⟩ = some (.map (some bm)) := gW.cell hc (by simp)
  have hrW : W.rangeAt w.heap.size 0 (cs l) := by rw [hW]; exact range_new w l 39
  have hcW2 : W2.cell? ⟨sb, 1, none⟩ = some (.map (some bm)) := gW2.cell hcW (by simp)
  have hrW2 : W2.rangeAt w.heap.size 0 (cs l) := fun j v hj => gW2.cell (hrW j v hj) (by simp)
  have hS3 : ∀ c : Array Value, (W2.setCells W.heap.size 0 c.toList).cell? ⟨sb, 1, none⟩ = some (.map (some bm)) ∧ (W2.setCells W.heap.size 0 c.toList).rangeAt w.heap.size 0 (cs l) := fun c =>
    ⟨(grown_setCells _ _ _ _).cell hcW2 (by simp; omega), fun j v hj => (grown_setCells _ _ _ _).cell (hrW2 j v hj) (by simp; omega)⟩
  have gE : ∀ c : Array Value, w.grownBy (W2.setCells W.heap.size 0 c.toList) none := fun c =>
    grown_new (gW.trans gW2) (grown_setCells _ _ _ _) (by omega)
  have hu39 := Try.underlying39
  have hi39 : (Try.prog.info? 39).map (·.size) = some (cs l).length := by rw [cs_length, hl.1]; exact info39
  have hi1 : (Try.prog.info? 103).map (·.size) = some c1.size := by rw [s1]; exact info103
  have hi2 : (Try.prog.info? 103).map (·.size) = some c2.size := by rw [s2]; exact info103
  have ht1 : W2.there W.heap.size 0 c1.size := by rw [s1]; exact hth
  have ht2 : W2.there W.heap.size 0 c2.size := by rw [s2]; exact hth
  have hS : W.cell? ⟨sb, 1, none⟩ = some (.map (some bm)) ∧ W.rangeAt w.heap.size 0 (cs l) := ⟨hcW, hrW⟩
  have hS2 : W2.cell? ⟨sb, 1, none⟩ = some (.map (some bm)) ∧ W2.rangeAt w.heap.size 0 (cs l) := ⟨hcW2, hrW2⟩
  have HW : Hid (W = (w.alloc (.cells (cs l).toArray 39)).drew) := hW
  clear hW hW2 hcW hcW2 hrW hrW2 hth s1 s2 gW gW2 oW oW2 hh
  go_enter Try.func25, Try.ntmps25
  go_wp2
  refine wp_region_held_drew (S := fun w' => w'.cell? ⟨sb, 1, none⟩ = some (.map (some bm)) ∧ w'.rangeAt w.heap.size 0 (cs l)) (by kernel_rfl) (by rw [← HW.out]; exact hS) (fun _ => ?_)
  rw [← HW.out]
  clear HW
  refine takeH (i := 0) (d := 8) (v := .pointer (some ⟨sb, 0, none⟩)) rfl rfl (by kernel_rfl) (by kernel_rfl) (by kernel_rfl) (fun _ _ _ h => h) (Or.inl ⟨by rfl, fun w _ => by go_simp⟩) hS ?_
  simp only [List.setIfInBounds_toArray, List.set_cons_zero, List.set_cons_succ]
  refine takeH (i := 1) (d := 9) (v := .pointer (some ⟨sb, 0, none⟩)) rfl rfl (by kernel_rfl) (by kernel_rfl) (by kernel_rfl) (fun _ _ _ h => h) (Or.inl ⟨by rfl, fun w _ => by go_simp⟩) hS ?_
  simp only [List.setIfInBounds_toArray, List.set_cons_zero, List.set_cons_succ]
  refine takeH (i := 2) (d := 10) (v := .pointer (some ⟨sb, 1, none⟩)) rfl rfl (by kernel_rfl) (by kernel_rfl) (by kernel_rfl) (fun _ _ _ h => h) (Or.inl ⟨by rfl, fun w _ => by go_simp⟩) hS ?_
  simp only [List.setIfInBounds_toArray, List.set_cons_zero, List.set_cons_succ]
  refine takeH (i := 3) (d := 11) (v := .map (some bm)) rfl rfl (by kernel_rfl) (by kernel_rfl) (by kernel_rfl) (fun _ _ _ h => h) (Or.inl ⟨by rfl, fun w hw => by have hw1 := hw.1; go_simp⟩) hS ?_
  simp only [List.setIfInBounds_toArray, List.set_cons_zero, List.set_cons_succ]
  refine takeH (i := 4) (d := 12) (v := .agg (cs l).toArray) rfl rfl (by kernel_rfl) (by kernel_rfl) (by kernel_rfl) (fun _ _ _ h => h) (yieldsIf_load_mid (by rfl) 39 (.tmp 3) rfl w.heap.size 0 rfl (cs l) _ (fun w hw => hw.2) hu39 rfl hi39) hS ?_
  simp only [List.setIfInBounds_toArray, List.set_cons_zero, List.set_cons_succ]
  refine twoH (i := 5) (j := 9) (by kernel_rfl) rfl rfl (by rfl) (by rfl) (fun K' hK => ?_) (fun K' hK => ?_)
  · -- the look-up first
    refine wp_lookup 84 (.tmp 11) (.tmp 12) true rfl 13 rfl hrun1 (hK _ _ hS ?_)
    clear hK
    simp only [List.setIfInBounds_toArray, List.set_cons_zero, List.set_cons_succ]
    refine takeH (i := 6) (d := 7) (v := .tuple #[.agg c1, .bool h]) rfl rfl (by kernel_rfl) (by kernel_rfl) (by kernel_rfl) (fun _ _ _ h => h) (Or.inl ⟨by rfl, fun w _ => by go_simp⟩) hS ?_
    simp only [List.setIfInBounds_toArray, List.set_cons_zero, List.set_cons_succ]
    refine takeH (i := 7) (d := 14) (v := .agg c1) rfl rfl (by kernel_rfl) (by kernel_rfl) (by kernel_rfl) (fun _ _ _ h => h) (Or.inl ⟨by rfl, fun w _ => by go_simp⟩) hS ?_
    simp only [List.setIfInBounds_toArray, List.set_cons_zero, List.set_cons_succ]
    refine takeH (i := 8) (d := 15) (v := .bool h) rfl rfl (by kernel_rfl) (by kernel_rfl) (by kernel_rfl) (fun _ _ _ h => h) (Or.inl ⟨by rfl, fun w _ => by go_simp⟩) hS ?_
    simp only [List.setIfInBounds_toArray, List.set_cons_zero, List.set_cons_succ]
    refine oneH (i := 9) (by kernel_rfl) rfl (by rfl) (fun K' hK => ?_)
    refine wp_alloc 103 rfl 5 rfl hal (hK _ _ hS2 ?_)
    clear hK
    simp only [List.setIfInBounds_toArray, List.set_cons_zero, List.set_cons_succ]
    refine oneH (i := 10) (by kernel_rfl) rfl (by rfl) (fun K' hK => ?_)
    refine wp_store 103 (.tmp 5) (.tmp 14) rfl rfl W.heap.size 0 c1 rfl rfl ht1 hi1 e1 (hK _ _ (hS3 c1) ?_)
    clear hK
    refine takeH (i := 11) (d := 6) (v := .bool h) rfl rfl (by kernel_rfl) (by kernel_rfl) (by kernel_rfl) (fun _ _ _ h => h) (Or.inl ⟨by rfl, fun w _ => by go_simp⟩) (hS3 c1) ?_
    simp only [List.setIfInBounds_toArray, List.set_cons_zero, List.set_cons_succ]
    refine wpAnyH_done (by kernel_rfl) ?_ _
    have g := gE c1
    clear hrun1 hrun2 hal hS hS2 hS3 gE ht1 ht2 hi1 hi2 e1 e2
    go_wp2
    go_ret
    exact ⟨rfl, g⟩
  · -- the blank's block first
    refine wp_alloc 103 rfl 5 rfl hal (hK _ _ hS2 ?_)
    clear hK
    simp only [List.setIfInBounds_toArray, List.set_cons_zero, List.set_cons_succ]
    refine oneH (i := 5) (by kernel_rfl) rfl (by rfl) (fun K' hK => ?_)
    refine wp_lookup 84 (.tmp 11) (.tmp 12) true rfl 13 rfl hrun2 (hK _ _ hS2 ?_)
    clear hK
    simp only [List.setIfInBounds_toArray, List.set_cons_zero, List.set_cons_succ]
    refine takeH (i := 6) (d := 7) (v := .tuple #[.agg c2, .bool h]) rfl rfl (by kernel_rfl) (by kernel_rfl) (by kernel_rfl) (fun _ _ _ h => h) (Or.inl ⟨by rfl, fun w _ => by go_simp⟩) hS2 ?_
    simp only [List.setIfInBounds_toArray, List.set_cons_zero, List.set_cons_succ]
    refine takeH (i := 7) (d := 14) (v := .agg c2) rfl rfl (by kernel_rfl) (by kernel_rfl) (by kernel_rfl) (fun _ _ _ h => h) (Or.inl ⟨by rfl, fun w _ => by go_simp⟩) hS2 ?_
    simp only [List.setIfInBounds_toArray, List.set_cons_zero, List.set_cons_succ]
    refine takeH (i := 8) (d := 15) (v := .bool h) rfl rfl (by kernel_rfl) (by kernel_rfl) (by kernel_rfl) (fun _ _ _ h => h) (Or.inl ⟨by rfl, fun w _ => by go_simp⟩) hS2 ?_
    simp only [List.setIfInBounds_toArray, List.set_cons_zero, List.set_cons_succ]
    refine oneH (i := 10) (by kernel_rfl) rfl (by rfl) (fun K' hK => ?_)
    refine wp_store 103 (.tmp 5) (.tmp 14) rfl rfl W.heap.size 0 c2 rfl rfl ht2 hi2 e2 (hK _ _ (hS3 c2) ?_)
    clear hK
    refine takeH (i := 11) (d := 6) (v := .bool h) rfl rfl (by kernel_rfl) (by kernel_rfl) (by kernel_rfl) (fun _ _ _ h => h) (Or.inl ⟨by rfl, fun w _ => by go_simp⟩) (hS3 c2) ?_
    simp only [List.setIfInBounds_toArray, List.set_cons_zero, List.set_cons_succ]
    refine wpAnyH_done (by kernel_rfl) ?_ _
    have g := gE c2
    clear hrun1 hrun2 hal hS hS2 hS3 gE ht1 ht2 hi1 hi2 e1 e2
    go_wp2
    go_ret
    exact ⟨rfl, g⟩

end Go.Proofs.Qxb6613544a
