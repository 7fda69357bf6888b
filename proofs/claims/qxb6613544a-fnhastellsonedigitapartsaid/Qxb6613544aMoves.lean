/-
  Small moves for a region that draws its order, taken by hand (beside Derived/OrdersHeld.lean).
-/
import Derived.Test.Qxb6613544aIds
import Derived.Deep.RegionHeld
namespace Go.Proofs.Qxb6613544a
open Go.RowKit

section
variable {P : Program} {ops : Array Oper} {Q : Exit → Act → World → Prop} {md : Region.Mode} {S : World → Prop}

/-- Take number i first; the slot that it writes is named. -/
theorem takeH {i d : Nat} {oi : Oper} {v : Value} {fuel : Nat} {listed : Array Bool} {tm : Array Value} {df : List Deferred} {w : World} (hi : ops[i]? = some oi) (hd : oi.dst = some d)
    (hs : Region.noSelect ops = true) (hf : Region.free md ops listed i = true) (hr : (Region.ready md ops listed).contains i = true)
    (hQ : ∀ c a w, Q (.panic c) (a.put oi.dst v) w → Q (.panic c) a w) (hy : YieldsIf P ops S oi v ⟨tm, df⟩) (hS : S w)
    (h : wpAnyH P md ops Q S fuel (listed.setIfInBounds i true) ⟨tm.setIfInBounds d v, df⟩ w) : wpAnyH P md ops Q S (fuel + 1) listed ⟨tm, df⟩ w :=
  wpAnyH_take hi hs hf hr hQ hy hS (by rw [hd]; exact h)

/-- One operation alone may come up. -/
theorem oneH {i : Nat} {o : Oper} {fuel : Nat} {listed : Array Bool} {a : Act} {w : World} (hr : Region.ready md ops listed = [i]) (hi : ops[i]? = some o) (hw : Region.wanted o (yielded ops a.tmps) = true)
    (h : ∀ K' : Act → World → Prop, (∀ a' w', S w' → wpAnyH P md ops Q S fuel (listed.setIfInBounds i true) a' w' → K' a' w') → Oper.wp P o a w K' Q) : wpAnyH P md ops Q S (fuel + 1) listed a w := by
  refine wpAnyH_all hr (by simp) (fun j hj => ?_)
  obtain rfl : j = i := by simpa using hj
  refine wpOp_step hi (fun K' hK => ?_)
  rw [if_pos hw]
  exact h K' (fun a' w' h1 h2 => hK a' w' ⟨h1, h2⟩)

/-- Two operations may come up. -/
theorem twoH {i j : Nat} {oi oj : Oper} {fuel : Nat} {listed : Array Bool} {a : Act} {w : World} (hr : Region.ready md ops listed = [i, j]) (hi : ops[i]? = some oi) (hj : ops[j]? = some oj)
    (hwi : Region.wanted oi (yielded ops a.tmps) = true) (hwj : Region.wanted oj (yielded ops a.tmps) = true)
    (h1 : ∀ K' : Act → World → Prop, (∀ a' w', S w' → wpAnyH P md ops Q S fuel (listed.setIfInBounds i true) a' w' → K' a' w') → Oper.wp P oi a w K' Q)
    (h2 : ∀ K' : Act → World → Prop, (∀ a' w', S w' → wpAnyH P md ops Q S fuel (listed.setIfInBounds j true) a' w' → K' a' w') → Oper.wp P oj a w K' Q) : wpAnyH P md ops Q S (fuel + 1) listed a w := by
  refine wpAnyH_all hr (by simp) (fun x hx => ?_)
  rcases List.mem_cons.1 hx with rfl | hx
  · refine wpOp_step hi (fun K' hK => ?_)
    rw [if_pos hwi]
    exact h1 K' (fun a' w' h1 h2 => hK a' w' ⟨h1, h2⟩)
  · obtain rfl : x = j := by simpa using hx
    refine wpOp_step hj (fun K' hK => ?_)
    rw [if_pos hwj]
    exact h2 K' (fun a' w' h1 h2 => hK a' w' ⟨h1, h2⟩)

theorem yieldsIf_build {op : Oper} {a : Act} (hw : Region.wanted op (yielded ops a.tmps) = true) (t i : Nat) (x : Operand) (ho : op.op = .build t #[(i, x)]) (v : Value)
    (hrun : ∀ w, (Instr.build t #[(i, a.eval x)]).run P w = .ok v w) : YieldsIf P ops S op v a :=
  .inl ⟨hw, fun w _ => by
    unfold execOp
    simp only [ho, List.map_toArray, List.map_cons, List.map_nil, Sem.run_bind, hrun, Result.andThen_ok, Sem.run_pure]⟩

theorem put_some {tm : Array Value} {df : List Deferred} {v : Value} {d : Nat} {x : Option Nat} (hd : x = some d) : (⟨tm, df⟩ : Act).put x v = ⟨tm.setIfInBounds d v, df⟩ := by subst hd; rfl
theorem put_none {a : Act} {v : Value} {x : Option Nat} (hd : x = none) : a.put x v = a := by subst hd; rfl

theorem wp_mapUpdate {o : Oper} {a : Act} {w w' : World} {K : Act → World → Prop} (t : TypeId) (m x y : Operand) (ho : o.op = .mapUpdate t m x y) (hd : o.dst = none)
    (hrun : (Instr.mapUpdate t (a.eval m) (a.eval x) (a.eval y)).run P w = .ok () w') (h : K a w') : o.wp P a w K Q := by
  unfold Oper.wp
  simp [execOp, ho, hrun, Result.andThen]
  show K (a.put o.dst undef) w'
  rw [put_none hd]
  exact h

theorem wp_store {o : Oper} {a : Act} {w : World} {K : Act → World → Prop} (ty : TypeId) (x y : Operand) (ho : o.op = .store ty x y) (hd : o.dst = none)
    (b off : Nat) (cells : Array Value) (hx : a.eval x = .pointer (some ⟨b, off, none⟩)) (hy : a.eval y = .agg cells)
    (ht : w.there b off cells.size) (hi : (P.info? ty).map (·.size) = some cells.size) (h1 : cells.all (·.oneCell') = true)
    (h : K a (w.setCells b off cells.toList)) : o.wp P a w K Q :=
  wp_store_mid ty x y ho b off cells hx hy ht hi h1 (by rw [put_none hd]; exact h)

theorem wp_lookup {o : Oper} {tm : Array Value} {df : List Deferred} {w w' : World} {v : Value} {K : Act → World → Prop} (t : TypeId) (m x : Operand) (c : Bool) (ho : o.op = .lookup t m x c) (d : Nat) (hd : o.dst = some d)
    (hrun : (Instr.lookup t ((⟨tm, df⟩ : Act).eval m) ((⟨tm, df⟩ : Act).eval x) c).run P w = .ok v w') (h : K ⟨tm.setIfInBounds d v, df⟩ w') : o.wp P ⟨tm, df⟩ w K Q := by
  unfold Oper.wp
  simp [execOp, ho, hrun, Result.andThen]
  show K ((⟨tm, df⟩ : Act).put o.dst v) w'
  rw [put_some hd]
  exact h

theorem wp_alloc {o : Oper} {tm : Array Value} {df : List Deferred} {w w' : World} {v : Value} {K : Act → World → Prop} (t : TypeId) (ho : o.op = .alloc t) (d : Nat) (hd : o.dst = some d)
    (hrun : (Instr.alloc t true (.tuple #[])).run P w = .ok v w') (h : K ⟨tm.setIfInBounds d v, df⟩ w') : o.wp P ⟨tm, df⟩ w K Q := by
  unfold Oper.wp
  simp [execOp, ho, hrun, Result.andThen]
  show K ((⟨tm, df⟩ : Act).put o.dst v) w'
  rw [put_some hd]
  exact h
end
end Go.Proofs.Qxb6613544a
