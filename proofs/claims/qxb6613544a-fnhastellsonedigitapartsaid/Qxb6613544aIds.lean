/-
  IDs as lists of twenty bytes: how they read as map keys, how they are compared.
-/
import Derived.Test.Qxb6613544aRows
import Derived.WalkKit
import Derived.WideKeyArr2
import Derived.Maps.OwnSet
import Derived.Deep.MidRow
namespace Go.Proofs.Qxb6613544a
open Go.RowKit
open Go.Maps (Keyed)

theorem laidOut : laidOutB Try.prog = true := by kernel_rfl
theorem arr39 : WideMaps.ArrKey Try.prog 39 5 20 := ⟨Try.underlying39, by kernel_rfl, by kernel_rfl, by kernel_rfl⟩
theorem arr38 : WideMaps.ArrKey Try.prog 38 5 20 := ⟨Try.underlying38, by kernel_rfl, by kernel_rfl, by kernel_rfl⟩
theorem info38 : (Try.prog.info? 38).map (·.size) = some 20 := by kernel_rfl
theorem info39 : (Try.prog.info? 39).map (·.size) = some 20 := by kernel_rfl
theorem typesPos : ∃ m, Try.prog.types.size = m + 1 := ⟨Try.prog.types.size - 1, by have : 0 < Try.prog.types.size := of_decide_eq_true (by kernel_rfl); omega⟩

/-- The cells of an ID. -/
def cs (l : List Int) : List Value := l.map (Value.int .u8)
/-- The value. -/
def V (l : List Int) : Value := .agg (cs l).toArray
/-- Twenty bytes. -/
def Good (l : List Int) : Prop := l.length = 20 ∧ ∀ n ∈ l, 0 ≤ n ∧ n ≤ 255
/-- How it reads as a key. -/
def K (l : List Int) : Lit := .string (keyBytes (l.map (Lit.int .u8)))

theorem cs_length (l : List Int) : (cs l).length = l.length := by simp [cs]
theorem wf_u8 {n : Int} (h : 0 ≤ n ∧ n ≤ 255) : (Lit.int .u8 n).wf = true := by
  simp [Lit.wf, IntKind.min, IntKind.max, IntKind.signed, IntKind.bits]; omega
theorem u8_wf {n : Int} (h : (Lit.int .u8 n).wf = true) : 0 ≤ n ∧ n ≤ 255 := by
  simp [Lit.wf, IntKind.min, IntKind.max, IntKind.signed, IntKind.bits] at h; omega

theorem mapM_lits (D : Nat) {l : List Int} (h : ∀ n ∈ l, 0 ≤ n ∧ n ≤ 255) : ∀ (L : List Nat), (∀ i ∈ L, i < l.length) →
    L.mapM (fun i => Try.prog.keyLits (D + 1) 5 (((cs l).drop (i * 1)).take 1)) = some (L.map fun i => [Lit.int .u8 (l.getD i 0)])
  | [], _ => rfl
  | i :: L, hL => by
    rw [List.mapM_cons, mapM_lits D h L (fun j hj => hL j (by simp [hj]))]
    have hi : i < l.length := hL i (by simp)
    have e : ((cs l).drop (i * 1)).take 1 = [Value.int .u8 (l.getD i 0)] := by
      rw [Nat.mul_one, List.take_one, List.head?_drop]
      simp [cs, hi]
    rw [e]
    have hw : (Lit.int .u8 (l.getD i 0)).wf = true := wf_u8 (h _ (by rw [List.getD_eq_getElem?_getD, List.getElem?_eq_getElem hi]; simp))
    rw [List.getD_eq_getElem?_getD] at hw
    simp [Program.keyLits, Try.underlying5, hw]

theorem range_getD (l : List Int) : ((List.range l.length).map fun i => [Lit.int .u8 (l.getD i 0)]).flatten = l.map (Lit.int .u8) := by
  have hfl : ∀ l : List Lit, (l.map fun x => [x]).flatten = l := fun l => by induction l with | nil => rfl | cons a r ih => simp [ih]
  have : ((List.range l.length).map fun i => [Lit.int .u8 (l.getD i 0)]) = (l.map (Lit.int .u8)).map fun x => [x] := by
    apply List.ext_getElem
    · simp
    · intro i h1 h2
      have : i < l.length := by simpa using h1
      simp [this]
  rw [this, hfl]

theorem key_of {k : TypeId} (A : WideMaps.ArrKey Try.prog k 5 20) {l : List Int} (h : Good l) : keyOf Try.prog k (V l) = some (K l) := by
  obtain ⟨h1, h2⟩ := h
  have hkt := A.keyType typesPos
  obtain ⟨m0, hm0⟩ := typesPos
  have hc : (cs l).toArray.size = 20 := by simp [cs, h1]
  unfold keyOf V
  simp only [A.hu]
  rw [if_pos (by simp only [hkt, Value.formed, A.hu, A.size, hc]; simp), hm0]
  unfold Program.keyLits
  simp only [A.hu, Value.cells]
  rw [if_pos (by rw [A.size]; simpa using hc)]
  have := mapM_lits m0 h2 (List.range 20) (fun i hi => by rw [h1]; simpa using hi)
  simp only [A.one]
  rw [this]
  have hr := range_getD l
  rw [h1] at hr
  simp only [Option.map_some, hr, K]

theorem key39 {l : List Int} (h : Good l) : keyOf Try.prog 39 (V l) = some (K l) := key_of arr39 h
theorem key38 {l : List Int} (h : Good l) : keyOf Try.prog 38 (V l) = some (K l) := key_of arr38 h
theorem law : Keyed Try.prog 39 := Keyed.of_law arr39.law

theorem V_inj {l l' : List Int} (h : V l = V l') : l = l' := by
  simp only [V, Value.agg.injEq] at h
  have h' : cs l = cs l' := by simpa using congrArg Array.toList h
  have : ∀ {a b : List Int}, a.map (Value.int .u8) = b.map (Value.int .u8) → a = b := by
    intro a
    induction a with
    | nil => intro b h; cases b <;> simp_all
    | cons x r ih => intro b h; cases b with
      | nil => simp at h
      | cons y s => simp only [List.map_cons, List.cons.injEq, Value.int.injEq, true_and] at h; rw [h.1, ih h.2]
  exact this h'

theorem K_inj {l l' : List Int} (h : Good l) (h' : Good l') : K l = K l' ↔ l = l' :=
  ⟨fun e => V_inj (law.inj (key39 h) (by rw [e]; exact key39 h')), fun e => by rw [e]⟩

/-- '==' on two arrays. -/
theorem eql38 {l l' : List Int} (h : Good l) (h' : Good l') (w : World) : (binOp .eql 38 (V l) (V l')).run Try.prog w = .ok (.bool (decide (l = l'))) w := by
  have hk : Try.prog.keyTypeAt 2 38 = true := by kernel_rfl
  have hm : (2 : Nat) ≤ 10000 := by decide
  obtain ⟨r, hr, hiff⟩ := run_equal_deep (P := Try.prog) w hm hk (by rw [Try.underlying38]) (key38 h) (key38 h')
  have e : (binOp .eql 38 (V l) (V l')).run Try.prog w = ((Op.equal 38 (V l) (V l')).run Try.prog w).andThen fun b w' => .ok (.bool b) w' := by
    simp only [V, run_eql_struct]
    rfl
  rw [e, hr]
  have : r = decide (l = l') := by
    by_cases hl : l = l'
    · simp [hl, hiff.2 ((K_inj h h').2 hl)]
    · cases hr' : r
      · simp [hl]
      · exact absurd ((K_inj h h').1 (hiff.1 hr')) hl
  rw [this]; rfl
end Go.Proofs.Qxb6613544a
