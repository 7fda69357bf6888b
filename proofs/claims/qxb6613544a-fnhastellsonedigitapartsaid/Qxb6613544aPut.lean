import Derived.Test.Qxb6613544aMoves
import Derived.WalkSpells
import Derived.WalkLawsBesides
import Derived.Outline
namespace Go.Proofs.Qxb6613544a
open Go.RowKit
open Go.Maps (Keyed)

theorem list20 {α : Type} (l : List α) (h : l.length = 20) : ∃ a b c d e f g i j k m n o p q r s t u v, l = [a, b, c, d, e, f, g, i, j, k, m, n, o, p, q, r, s, t, u, v] := by
  match l, h with
  | [a, b, c, d, e, f, g, i, j, k, m, n, o, p, q, r, s, t, u, v], _ => exact ⟨a, b, c, d, e, f, g, i, j, k, m, n, o, p, q, r, s, t, u, v, rfl⟩

/-- What stands behind the ID in a Certificate of which only the ID is set. -/
def certRest : List Value := [.slice none 0 0, .int .u64 0, .int .u64 0, .pointer none, .int .u16 0, .int .u64 0, .int .i64 0, .pointer none, .slice none 0 0]
def certC (l : List Int) : List Value := cs l ++ certRest

theorem build103 {l : List Int} (h : l.length = 20) (w : World) : (Instr.build 103 #[(0, .agg (cs l).toArray)]).run Try.prog w = .ok (.agg (certC l).toArray) w := by
  obtain ⟨a, b, c, d, e, f, g, i, j, k, m, n, o, p, q, r, s, t, u, v, rfl⟩ := list20 l h
  kernel_rfl
theorem zero103 (w : World) : (zeroValue 103).run Try.prog w = .ok (.agg (certC [0,0,0,0,0,0,0,0,0,0,0,0,0,0,0,0,0,0,0,0]).toArray) w := by kernel_rfl

/-- How an element of the store's map reads: of each we want to know only its shape: twenty-nine cells. -/
def certR (v : Value) : Option (DataW Unit × List MemPlace) :=
  match v with
  | .agg c => if c.size = 29 ∧ c.all (·.oneCell') = true then some (.nil, []) else none
  | _ => none
theorem certC_size {l : List Int} (h : l.length = 20) : (certC l).toArray.size = 29 := by simp [certC, cs, certRest, h]
theorem certC_one (l : List Int) : (certC l).toArray.all (·.oneCell') = true := by
  apply all_oneCell_toArray
  intro v hv
  rcases List.mem_append.1 hv with hv | hv
  · simp only [cs, List.mem_map] at hv
    obtain ⟨n, _, rfl⟩ := hv
    rfl
  · simp only [certRest, List.mem_cons, List.not_mem_nil, or_false] at hv
    rcases hv with rfl | rfl | rfl | rfl | rfl | rfl | rfl | rfl | rfl <;> rfl
theorem certR_mk {l : List Int} (h : Good l) : certR (.agg (certC l).toArray) = some (.nil, []) := if_pos ⟨certC_size h.1, certC_one l⟩
theorem certR_inv {v : Value} {z : DataW Unit × List MemPlace} (h : certR v = some z) : ∃ c : Array Value, v = .agg c ∧ c.size = 29 ∧ c.all (·.oneCell') = true := by
  unfold certR at h
  split at h
  · split at h
    · rename_i c hc
      exact ⟨c, rfl, hc.1, hc.2⟩
    · cases h
  · cases h

theorem range_new (w : World) (l : List Int) (t : TypeId) : (w.alloc (.cells (cs l).toArray t)).drew.rangeAt w.heap.size 0 (cs l) := by
  intro j v hj
  show (w.alloc (.cells (cs l).toArray t)).cell? _ = _
  rw [cell_of_row (w.alloc (.cells (cs l).toArray t)) w.heap.size (0 + j) (cs l).toArray t (0, 0) (heap_alloc_new w _)]
  simpa using hj

theorem ne_map {w : World} {sb o bm n : Nat} {v : Value} {D : DataW Unit} (hc : w.cell? ⟨sb, o, none⟩ = some v) (hown : w.ownsMap Try.prog 39 certR bm n D) : sb ≠ bm := by
  obtain ⟨es, clock, hb, _⟩ := hown
  intro e
  subst e
  simp [World.cell?, hb] at hc

theorem grown_drew {w w1 : World} {row : Option Nat} (h : w.grownBy w1 row) : w.grownBy w1.drew row := ⟨h.os, h.tape, h.output, h.size, h.block⟩

theorem put_run {l : List Int} (hl : Good l) {bm n : Nat} {D : DataW Unit} {w : World} (hown : w.ownsMap Try.prog 39 certR bm n D) (hn : n < maxLen) :
    ∃ w', (Instr.mapUpdate 84 (.map (some bm)) (.agg (cs l).toArray) (.agg (certC l).toArray)).run Try.prog w = .ok () w' ∧ w'.ownsMap Try.prog 39 certR bm (n + 1) (D.put (K l) .nil) ∧ w.grownBy w' (some bm) :=
  World.ownsMap.update (P := Try.prog) (k := 39) (R := certR) (w := w) (b := bm) (n := n) (D := D) (t := 84) (e := 103) hown law Try.underlying84 hn (key := .agg (cs l).toArray) (val := .agg (certC l).toArray) (kl := K l) (d := .nil) (ps := []) (key39 hl) (certR_mk hl)

set_option maxRecDepth 100000 in
set_option maxHeartbeats 400000 in
theorem put_any (l : List Int) (hl : Good l) (sb bm n : Nat) (D : DataW Unit) (w : World) (hc : w.cell? ⟨sb, 1, none⟩ = some (.map (some bm))) (hown : w.ownsMap Try.prog 39 certR bm n D) (hn : n < maxLen) :
    Calls Try.prog 22 #[.pointer (some ⟨sb, 0, none⟩), .agg (cs l).toArray] w fun e w' => e = .returned (.tuple #[]) ∧ w'.ownsMap Try.prog 39 certR bm (n + 1) (D.put (K l) .nil) ∧ w.grownBy w' (some bm) := by
  have hsb : sb < w.heap.size := World.block_lt_of_cell? w ⟨sb, 1, none⟩ hc
  obtain ⟨w', hrun, o1, g1⟩ := put_run hl (hown.alloc (.cells (cs l).toArray 39)).drew hn
  have hb := fun w => build103 hl.1 w
  have hne : sb ≠ bm := ne_map hc hown
  have hcA : (w.alloc (.cells (cs l).toArray 39)).drew.cell? ⟨sb, 1, none⟩ = some (.map (some bm)) := (World.cell?_alloc_lt w _ ⟨sb, 1, none⟩ hsb).trans hc
  have hr := range_new w l 39
  have hcB : w'.cell? ⟨sb, 1, none⟩ = some (.map (some bm)) := g1.cell hcA (by simpa using hne)
  have hrB : w'.rangeAt w.heap.size 0 (cs l) := fun j v hj => g1.cell (hr j v hj) (by have := hown.lt; simp; omega)
  have hu39 := Try.underlying39
  have hi39 : (Try.prog.info? 39).map (·.size) = some (cs l).length := by rw [cs_length, hl.1]; exact info39
  go_enter Try.func22, Try.ntmps22
  go_wp2
  refine wp_region_held_drew (S := fun w' => w'.cell? ⟨sb, 1, none⟩ = some (.map (some bm)) ∧ w'.rangeAt w.heap.size 0 (cs l)) (by kernel_rfl) ⟨hcA, hr⟩ (fun hS => ?_)
  refine takeH (i := 0) (d := 4) (v := .pointer (some ⟨sb, 0, none⟩)) rfl rfl (by kernel_rfl) (by kernel_rfl) (by kernel_rfl) (fun _ _ _ h => h) (Or.inl ⟨by rfl, fun w _ => by go_simp⟩) hS ?_
  simp only [List.setIfInBounds_toArray, List.set_cons_zero, List.set_cons_succ]
  refine takeH (i := 1) (d := 5) (v := .pointer (some ⟨sb, 0, none⟩)) rfl rfl (by kernel_rfl) (by kernel_rfl) (by kernel_rfl) (fun _ _ _ h => h) (Or.inl ⟨by rfl, fun w _ => by go_simp⟩) hS ?_
  simp only [List.setIfInBounds_toArray, List.set_cons_zero, List.set_cons_succ]
  refine takeH (i := 2) (d := 6) (v := .pointer (some ⟨sb, 1, none⟩)) rfl rfl (by kernel_rfl) (by kernel_rfl) (by kernel_rfl) (fun _ _ _ h => h) (Or.inl ⟨by rfl, fun w _ => by go_simp⟩) hS ?_
  simp only [List.setIfInBounds_toArray, List.set_cons_zero, List.set_cons_succ]
  refine takeH (i := 3) (d := 7) (v := .map (some bm)) rfl rfl (by kernel_rfl) (by kernel_rfl) (by kernel_rfl) (fun _ _ _ h => h) (Or.inl ⟨by rfl, fun w hw => by have hw1 := hw.1; go_simp⟩) hS ?_
  simp only [List.setIfInBounds_toArray, List.set_cons_zero, List.set_cons_succ]
  refine takeH (i := 4) (d := 8) (v := .agg (cs l).toArray) rfl rfl (by kernel_rfl) (by kernel_rfl) (by kernel_rfl) (fun _ _ _ h => h) (yieldsIf_load_mid (by rfl) 39 (.tmp 3) rfl w.heap.size 0 rfl (cs l) _ (fun w hw => hw.2) hu39 rfl hi39) hS ?_
  simp only [List.setIfInBounds_toArray, List.set_cons_zero, List.set_cons_succ]
  refine takeH (i := 5) (d := 9) (v := .agg (cs l).toArray) rfl rfl (by kernel_rfl) (by kernel_rfl) (by kernel_rfl) (fun _ _ _ h => h) (yieldsIf_load_mid (by rfl) 39 (.tmp 3) rfl w.heap.size 0 rfl (cs l) _ (fun w hw => hw.2) hu39 rfl hi39) hS ?_
  simp only [List.setIfInBounds_toArray, List.set_cons_zero, List.set_cons_succ]
  refine takeH (i := 6) (d := 10) (v := .agg (certC l).toArray) rfl rfl (by kernel_rfl) (by kernel_rfl) (by kernel_rfl) (fun _ _ _ h => h) (yieldsIf_build (by rfl) 103 0 (.tmp 9) rfl _ hb) hS ?_
  simp only [List.setIfInBounds_toArray, List.set_cons_zero, List.set_cons_succ]
  refine oneH (i := 7) (by kernel_rfl) rfl (by rfl) (fun K' hK => ?_)
  refine wp_mapUpdate 84 (.tmp 7) (.tmp 8) (.tmp 10) rfl rfl hrun (hK _ _ ⟨hcB, hrB⟩ (wpAnyH_done (by kernel_rfl) ?_ _))
  go_wp2
  go_end0
  exact ⟨rfl, o1, (grown_drew (World.grownBy_alloc w _ _)).trans g1⟩

end Go.Proofs.Qxb6613544a
