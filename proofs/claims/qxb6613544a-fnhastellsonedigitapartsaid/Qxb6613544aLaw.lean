/-
  The walk of 'FnHasTellsOneDigitApart'.
-/
import Derived.Test.Qxb6613544aStore
import Derived.Test.Qxb6613544aSize
namespace Go.Proofs.Qxb6613544a
open Go.RowKit

theorem range0 (w : World) (q : List Int) (t : TypeId) : (w.alloc (.cells (cs q).toArray t)).rangeAt w.heap.size 0 (cs q) := range_new w q t

theorem St.congr {w0 w : World} {sb bm n : Nat} {Hs Hs' : List Int → Prop} (h : St w0 w sb bm n Hs) (e : ∀ l, Hs l ↔ Hs' l) : St w0 w sb bm n Hs' := by
  obtain ⟨D, h1, h2, h3⟩ := h
  exact ⟨D, h1, fun l hl => (h2 l hl).trans (e l), h3⟩

theorem wpList_load_want {P : Program} {ops : Array Oper} {rest : List Oper} {op : Oper} {a : Act} {w : World} {Q : Exit → Act → World → Prop} (hw : Region.wanted op (yielded ops a.tmps) = true) (ty : TypeId) (x : Operand) (ho : op.op = .load ty x)
    (b o : Nat) (hx : a.eval x = .pointer (some ⟨b, o, none⟩)) (c : List Value) (d : TypeDesc) (hc : w.rangeAt b o c)
    (hu : P.underlying ty = some d) (hd : d.isRow = true) (hi : (P.info? ty).map (·.size) = some c.length)
    (h : wpList P ops Q rest (a.put op.dst (.agg c.toArray)) w) : wpList P ops Q (op :: rest) a w :=
  wpList_step fun K hK => by rw [if_pos hw]; exact wp_load_mid ty x ho b o hx c d hc hu hd hi (hK _ _ h)

theorem yieldsIf_eql {P : Program} {ops : Array Oper} {S : World → Prop} {op : Oper} {a : Act} (hw : Region.wanted op (yielded ops a.tmps) = true) (t t2 : TypeId) (x y : Operand) (ho : op.op = .binOp .eql t x y t2) (xs ys : Array Value)
    (hx : a.eval x = .agg xs) (hy : a.eval y = .agg ys) (hm : P.eqGuardType P.depth t = false) (v : Value) (hrun : ∀ w, (binOp .eql t (.agg xs) (.agg ys)).run P w = .ok v w) : YieldsIf P ops S op v a :=
  .inl ⟨hw, fun w _ => by
    unfold execOp
    simp only [ho, hx, hy, Sem.run_bind, run_eqGuard_agg w .eql t x y xs ys hm, Result.andThen_ok, hrun, Sem.run_pure]⟩

theorem guard38 : Try.prog.eqGuardType Try.prog.depth 38 = false := by kernel_rfl

theorem there1 (w : World) (Z0 : Array Value) (hZ : Z0.size = 20) (m : List Int) (hm : m.length = 20) : (w.alloc (.cells Z0 39)).there w.heap.size 0 (cs m).toArray.size := by
  intro j hj
  have hj' : j < 20 := by simpa [cs, hm] using hj
  have hg := heap_alloc_new w (.cells Z0 39)
  refine ⟨?_, frozen_of_row _ _ _ _ _ hg⟩
  rw [cell_of_row _ _ _ _ _ _ hg]
  have : (0 + j) < Z0.size := by omega
  rw [Array.getElem?_eq_getElem this]
  rfl

theorem round_no {bw : Bool} {p : Prop} {Z : Nat → List Int} {v : List Int} {m : Nat} (h : Hid (bw = true ↔ p ∨ ∃ j, j < m ∧ Z j = v)) (hc : Hid (false = decide (Z m = v))) : Hid (bw = true ↔ p ∨ ∃ j, j < m + 1 ∧ Z j = v) := by
  unfold Hid at *
  have hn : ¬ Z m = v := by simpa using hc.symm
  rw [h]
  constructor
  · rintro (h | ⟨j, hj, e⟩)
    · exact .inl h
    · exact .inr ⟨j, by omega, e⟩
  · rintro (h | ⟨j, hj, e⟩)
    · exact .inl h
    · refine .inr ⟨j, ?_, e⟩
      by_cases e' : j = m
      · subst e'; exact absurd e hn
      · omega
theorem round_yes {p : Prop} {Z : Nat → List Int} {v : List Int} {m : Nat} (hc : Hid (true = decide (Z m = v))) : Hid (true = true ↔ p ∨ ∃ j, j < m + 1 ∧ Z j = v) := by
  unfold Hid at *
  have hy : Z m = v := by simpa using hc.symm
  exact ⟨fun _ => .inr ⟨m, by omega, hy⟩, fun _ => rfl⟩
theorem last_iff {bw : Bool} {d x : Int} {Z : Nat → List Int} {v q : List Int} {m : Nat} (hv : v = q ↔ d = x) (h : Hid (bw = true ↔ d = x ∨ ∃ j, j < m ∧ Z j = v)) : bw = true ↔ v = q ∨ ∃ j, j < m ∧ Z j = v := by
  rw [hv]; exact h.out

theorem digit_v (q : List Int) (hq : Good q) (i : Int) (h0 : 0 ≤ i) (h1 : i < 40) (v : List Int) (hv : v.length = 20) (Z0 : Array Value) (hZ : Z0.size = 20) {w0 w4 : World} {sb bm n : Nat} {Hs : List Int → Prop} (hs4 : St w0 w4 sb bm n Hs) :
    Calls Try.prog 24 #[.agg (cs q).toArray, .int .i64 i] ((w4.alloc (.cells Z0 39)).setCells w4.heap.size 0 (cs v)) fun e w' => e = .returned (.int .i64 (dg q i)) ∧ ∃ w5, St w0 w5 sb bm n Hs ∧ w5.rangeAt w4.heap.size 0 (cs v) ∧ St w5 w' sb bm n Hs := by
  have hs5 : St w0 ((w4.alloc (.cells Z0 39)).setCells w4.heap.size 0 (cs v)) sb bm n Hs := hs4.kept (grown_new (World.grownBy_alloc w4 _ _) (grown_setCells _ _ _ _) (Nat.le_refl _))
  have hr5 : ((w4.alloc (.cells Z0 39)).setCells w4.heap.size 0 (cs v)).rangeAt w4.heap.size 0 (cs v) :=
    World.rangeAt_setCells_same _ _ _ _ (by have := there1 w4 Z0 hZ v hv; simpa using this)
  exact (digit_st q hq i h0 h1 hs5.rebase).mono fun _ _ ⟨he, hs6⟩ => ⟨he, _, hs5, hr5, hs6⟩

theorem qr5 {w0 w4 : World} {sb bm n : Nat} {Hs : List Int → Prop} (hs4 : St w0 w4 sb bm n Hs) {b o : Nat} {c : List Value} (h : w0.rangeAt b o c) (O : Obj) (vs : List Value) : ((w4.alloc O).setCells w4.heap.size 0 vs).rangeAt b o c :=
  (hs4.kept (grown_new (World.grownBy_alloc w4 _ _) (grown_setCells _ _ _ _) (Nat.le_refl _))).range h

set_option maxRecDepth 100000 in
set_option maxHeartbeats 1000000 in
theorem law_main (b off len cap : Nat) (Z : Nat → List Int) (hZ : ∀ j, j < len → Good (Z j)) (q : List Int) (hq : Good q) (i d : Int) (h0 : 0 ≤ i) (h1 : i < 40) (d0 : 0 ≤ d) (d1 : d < 16) (w : World) (hr : ∀ j, j < len → w.rangeAt b (off + j * 20) (cs (Z j))) (hlen : len ≤ 32768) :
    Calls Try.prog 4 #[.slice (some ⟨b, off, none⟩) len cap, .agg (cs q).toArray, .int .i64 i, .int .i64 d] w fun e w' => e = .returned (.bool true) ∧ w.grownBy w' none := by
  have hu38 := Try.underlying38
  have hi38 : (Try.prog.info? 38).map (·.size) = some (cs q).length := by rw [cs_length, hq.1]; exact info38
  go_enter Try.func4, Try.ntmps4
  go_wp2_with (refine wpList_load_mid rfl 38 (.tmp 5) rfl w.heap.size 0 rfl (cs q) _ (range0 w q _) hu38 rfl hi38 ?_)
  refine (size_any _ _ _ _ _ _ _).mono ?_
  rintro e w1 ⟨⟨bb, rfl⟩, g1⟩
  have gw : w.grownBy (w.alloc (.cells (cs q).toArray 38)) none := World.grownBy_alloc w _ _
  obtain ⟨w0, hw0⟩ : ∃ w0, w0 = w.alloc (.cells (cs q).toArray 38) := ⟨_, rfl⟩
  have hq0 : w0.rangeAt w.heap.size 0 (cs q) := by rw [hw0]; exact range0 w q 38
  rw [← hw0] at g1 gw
  clear hw0
  have hr0 : ∀ j, j < len → w0.rangeAt b (off + j * 20) (cs (Z j)) := fun j hj t v hv => gw.cell (hr j hj t v hv) (by simp)
  clear hr
  cases bb
  · go_wp2
    go_ret
    exact ⟨rfl, gw.trans g1⟩
  · go_wp2_with fail
    refine (new_any _).mono ?_
    rintro e w2 ⟨rfl, hw2⟩
    have hst : St w0 w2 (w1.heap.size + 1) w1.heap.size 0 (fun _ => False) := by rw [hw2]; exact St.made g1
    have hbm : w0.heap.size ≤ w1.heap.size := g1.size
    clear hw2 g1
    go_wp2
    go_loopw [40] (fun i wr => ∃ k : Nat, k ≤ len ∧ i = .int .i64 k ∧ St w0 wr (w1.heap.size + 1) w1.heap.size k (fun l => ∃ j, j < k ∧ Z j = l)) (fun i _ => len - (intOf i).toNat)
    case atStart => exact ⟨0, Nat.zero_le _, rfl, by simpa using hst⟩
    case round =>
      obtain ⟨k, hk, rfl, hs⟩ := hrel
      clear hst
      by_cases hlt : k < len
      · have hrk := hs.range (hr0 k hlt)
        have hik : (Try.prog.info? 38).map (·.size) = some (cs (Z k)).length := by rw [cs_length, (hZ k hlt).1]; exact info38
        go_wp2_with (refine wpList_load_mid rfl 38 (.tmp 46) rfl b (off + k * 20) rfl (cs (Z k)) _ hrk hu38 rfl hik ?_)
        refine (put_st (Z k) (hZ k hlt) hs (by unfold maxLen; omega) hbm).mono ?_
        rintro e w3 ⟨rfl, hs3⟩
        have hs4 : St w0 w3 (w1.heap.size + 1) w1.heap.size (k + 1) (fun l => ∃ j, j < k + 1 ∧ Z j = l) := hs3.congr (fun l => ⟨fun h => by
          rcases h with rfl | ⟨j, hj, e⟩
          · exact ⟨k, by omega, rfl⟩
          · exact ⟨j, by omega, e⟩, fun ⟨j, hj, e⟩ => by
          by_cases h : j = k
          · subst h; exact .inl e.symm
          · exact .inr ⟨j, by omega, e⟩⟩)
        clear hs hs3 hrk hik
        go_wp2
        go_roundw
        case rel => exact ⟨k + 1, by omega, by go_num, hs4⟩
        case measure => simp [intOf]; omega
      · have hkl : k = len := by omega
        subst hkl
        have hqr := hs.range hq0
        go_wp2_with (refine wpList_load_mid rfl 38 (.tmp 5) rfl w.heap.size 0 rfl (cs q) _ hqr hu38 rfl hi38 ?_)
        refine (put_st q hq hs (by unfold maxLen; omega) hbm).mono ?_
        rintro e w3 ⟨rfl, hs3⟩
        clear hs hqr
        have hqr := hs3.range hq0
        go_wp2_with (refine wpList_load_mid rfl 38 (.tmp 5) rfl w.heap.size 0 rfl (cs q) _ hqr hu38 rfl hi38 ?_)
        refine (with_st q hq i d h0 h1 d0 d1 hs3).mono ?_
        rintro e w4 ⟨rfl, hs4⟩
        clear hs3 hqr
        have hvg := wd_good hq h0 h1 d0 d1
        have hi39 : (Try.prog.info? 39).map (·.size) = some (cs (wd q i d)).length := by rw [cs_length, hvg.1]; exact info39
        have hi39' : (Try.prog.info? 39).map (·.size) = some (cs (wd q i d)).toArray.size := by simpa using hi39
        have h1c := cs_one (wd q i d)
        go_wp2_with (first
          | refine wpList_store_mid rfl 39 (.tmp 11) (.tmp 56) rfl w4.heap.size 0 (cs (wd q i d)).toArray rfl rfl (there1 w4 _ rfl _ hvg.1) hi39' h1c ?_
          | refine wpList_load_mid rfl 38 (.tmp 5) rfl w.heap.size 0 rfl (cs q) _ (qr5 hs4 hq0 _ _) hu38 rfl hi38 ?_)
        refine (digit_v q hq i h0 h1 (wd q i d) hvg.1 _ rfl hs4).mono ?_
        rintro e w6 ⟨rfl, w5, hs5, hv5, hs6⟩
        clear hs4 hi39' h1c
        have hr5 : ∀ j, j < k → w5.rangeAt b (off + j * 20) (cs (Z j)) := fun j hj => hs5.range (hr0 j hj)
        have hq5 := hs5.range hq0
        have gw5 := gw.trans hs5.grown
        clear hs5 hr0 hq0 gw hbm hk hlt
        go_wp2
        go_loopw [64, 12] (fun i' b' wr => ∃ (m : Nat) (bw : Bool), m ≤ k ∧ i' = .int .i64 m ∧ b' = .bool bw ∧ Hid (bw = true ↔ d = dg q i ∨ ∃ j, j < m ∧ Z j = wd q i d) ∧ St w5 wr (w1.heap.size + 1) w1.heap.size (k + 1) (fun l' => l' = q ∨ ∃ j, j < k ∧ Z j = l')) (fun i' _ _ => k - (intOf i').toNat)
        case atStart => exact ⟨0, _, Nat.zero_le _, rfl, rfl, by unfold Hid; simp, hs6⟩
        case round =>
          obtain ⟨m, bw, hm, rfl, rfl, hbw, hs⟩ := hrel
          clear hs6
          by_cases hlt : m < k
          · have hrm := hs.range (hr5 m hlt)
            have hvm := hs.range hv5
            have him : (Try.prog.info? 38).map (·.size) = some (cs (Z m)).length := by rw [cs_length, (hZ m hlt).1]; exact info38
            obtain ⟨c, hc⟩ : ∃ c : Bool, c = decide (Z m = wd q i d) := ⟨_, rfl⟩
            have heq : ∀ w, (binOp .eql 38 (.agg (cs (Z m)).toArray) (.agg (cs (wd q i d)).toArray)).run Try.prog w = .ok (.bool c) w := fun w => by rw [hc]; exact eql38 (hZ m hlt) hvg w
            have HC : Hid (c = decide (Z m = wd q i d)) := hc
            have HE : Hid (∀ w, (binOp .eql 38 (.agg (cs (Z m)).toArray) (.agg (cs (wd q i d)).toArray)).run Try.prog w = .ok (.bool c) w) := heq
            clear hc heq
            go_wp2
            refine wp_region_held_drew (S := fun w' => w'.rangeAt b (off + m * 20) (cs (Z m)) ∧ w'.rangeAt w4.heap.size 0 (cs (wd q i d))) (by kernel_rfl) ⟨hrm, hvm⟩ (fun hS => ?_)
            refine takeH (i := 0) (d := 67) (v := .slice (some ⟨b, off, none⟩) k cap) rfl rfl (by kernel_rfl) (by kernel_rfl) (by kernel_rfl) (fun _ _ _ h => h) (Or.inl ⟨by rfl, fun w _ => by go_simp⟩) hS ?_
            simp only [List.setIfInBounds_toArray, List.set_cons_zero, List.set_cons_succ]
            refine takeH (i := 1) (d := 68) (v := .int .i64 m) rfl rfl (by kernel_rfl) (by kernel_rfl) (by kernel_rfl) (fun _ _ _ h => h) (Or.inl ⟨by rfl, fun w _ => by go_simp⟩) hS ?_
            simp only [List.setIfInBounds_toArray, List.set_cons_zero, List.set_cons_succ]
            refine takeH (i := 2) (d := 69) (v := .pointer (some ⟨b, off + m * 20, none⟩)) rfl rfl (by kernel_rfl) (by kernel_rfl) (by kernel_rfl) (fun _ _ _ h => h) (Or.inl ⟨by rfl, fun w _ => by go_simp⟩) hS ?_
            simp only [List.setIfInBounds_toArray, List.set_cons_zero, List.set_cons_succ]
            refine takeH (i := 3) (d := 70) (v := .agg (cs (Z m)).toArray) rfl rfl (by kernel_rfl) (by kernel_rfl) (by kernel_rfl) (fun _ _ _ h => h) (yieldsIf_load_mid (by rfl) 38 (.tmp 69) rfl b (off + m * 20) rfl (cs (Z m)) _ (fun w hw => hw.1) hu38 rfl him) hS ?_
            simp only [List.setIfInBounds_toArray, List.set_cons_zero, List.set_cons_succ]
            refine takeH (i := 4) (d := 71) (v := .agg (cs (wd q i d)).toArray) rfl rfl (by kernel_rfl) (by kernel_rfl) (by kernel_rfl) (fun _ _ _ h => h) (yieldsIf_load_mid (by rfl) 39 (.tmp 11) rfl w4.heap.size 0 rfl (cs (wd q i d)) _ (fun w hw => hw.2) Try.underlying39 rfl hi39) hS ?_
            simp only [List.setIfInBounds_toArray, List.set_cons_zero, List.set_cons_succ]
            refine takeH (i := 5) (d := 72) (v := .bool c) rfl rfl (by kernel_rfl) (by kernel_rfl) (by kernel_rfl) (fun _ _ _ h => h) (yieldsIf_eql (by rfl) 38 38 (.tmp 70) (.tmp 71) rfl (cs (Z m)).toArray (cs (wd q i d)).toArray rfl rfl guard38 _ HE.out) hS ?_
            simp only [List.setIfInBounds_toArray, List.set_cons_zero, List.set_cons_succ]
            refine wpAnyH_done (by kernel_rfl) ?_ _
            clear hS hrm hvm him
            clear HE
            have hs' := hs.kept (grown_drew (World.grownBy.refl _ none))
            clear hs
            cases c
            · go_wp2
              go_roundw
              case rel => exact ⟨m + 1, bw, by omega, by go_num, rfl, round_no hbw HC, hs'⟩
              case measure => simp [intOf]; omega
            · go_wp2
              go_roundw
              case rel => exact ⟨m + 1, true, by omega, by go_num, rfl, round_yes HC, hs'⟩
              case measure => simp [intOf]; omega
          · have hmk : m = k := by omega
            subst hmk
            have hqr := hs.range hq5
            have hvr := hs.range hv5
            go_wp2_with (refine wpList_load_mid rfl 38 (.tmp 5) rfl w.heap.size 0 rfl (cs q) _ hqr hu38 rfl hi38 ?_)
            refine (has_st q hq hs true (by simp)).mono ?_
            rintro e w7 ⟨rfl, hs7⟩
            clear hs hqr hvr
            have hvr := hs7.range hv5
            go_wp2_with (refine wpList_load_want (by rfl) 39 (.tmp 11) rfl w4.heap.size 0 rfl (cs (wd q i d)) _ hvr Try.underlying39 rfl hi39 ?_)
            refine (has_st (wd q i d) hvg hs7 bw (last_iff (wd_eq hq h0 h1) hbw)).mono ?_
            rintro e w8 ⟨rfl, hs8⟩
            go_wp2
            go_ret
            exact ⟨by simp, gw5.trans hs8.grown⟩
end Go.Proofs.Qxb6613544a
