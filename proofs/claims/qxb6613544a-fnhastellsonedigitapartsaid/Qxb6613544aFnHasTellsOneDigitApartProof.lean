/-
  'Rows.FnHasTellsOneDigitApartSaid' PROVED. The frame follows the kit's template for a law over slices ('Below').
-/
import Derived.Test.Qxb6613544aRows
import Derived.Test.Qxb6613544aLawRest
import Derived.WalkKit
import Derived.ProofKit
import Derived.OpenShut
import Derived.ChangeOld
import Derived.Below
import Derived.Deep.Slices
namespace Go.Proofs.Qxb6613544a.fnHasTellsOneDigitApart
open Go.ChangeShapes Go.WideShapes Go.ChangeAt Go.RowKit
set_option linter.unusedVariables false

theorem own : ownKnob Try.prog.godebug = none := by kernel_rfl

/-! ### How the arguments read -/
section
variable {H : Type} {enc : TypeId × Value → H} {w : World} {base : Nat} {spare : Nat → Bool} {held : Bool}

/-- An array of twenty bytes that can be read. -/
theorem arr_good {fuel : Nat} {c : List Value} {x : DataW H × List MemPlace} (h : DataW.trod enc Try.prog w base spare held fuel 38 c = some x) : ∃ l, Good l ∧ c = cs l := by
  obtain ⟨xs, m, _, _, hlen, hxs, hall⟩ := DataW.trod_array Try.underlying38 h
  rw [arr38.size] at hlen
  simp only [arr38.one, Nat.mul_one] at hall
  have key : ∀ i, i < 20 → ∃ n, c[i]? = some (.int .u8 n) ∧ 0 ≤ n ∧ n ≤ 255 := by
    intro i hi
    have h1 := hall i hi
    rw [List.getElem?_eq_getElem (by omega)] at h1
    obtain ⟨n, e, _, hw⟩ := DataW.trod_int Try.underlying5 h1
    refine ⟨n, ?_, u8_wf hw⟩
    have : ((c.drop i).take 1)[0]? = some (.int .u8 n) := by rw [e]; rfl
    simpa using this
  refine ⟨c.map intOf, ⟨by simp [hlen], ?_⟩, ?_⟩
  · intro n hn
    obtain ⟨v, hv, rfl⟩ := List.mem_map.1 hn
    obtain ⟨i, hi, rfl⟩ := List.mem_iff_getElem.1 hv
    obtain ⟨n, e, b⟩ := key i (by omega)
    rw [List.getElem?_eq_getElem hi] at e
    simp only [Option.some.injEq] at e
    rw [e]
    exact b
  · apply List.ext_getElem?
    intro i
    by_cases hi : i < 20
    · obtain ⟨n, e, _⟩ := key i hi
      simp [cs, e, intOf]
    · rw [List.getElem?_eq_none (by omega), List.getElem?_eq_none (by simp [cs, hlen]; omega)]

/-- The slice of IDs. -/
theorem ids_good {fuel : Nat} {a : Option Addr} {len cap : Nat} {x : DataW H × List MemPlace} (h : DataW.trod enc Try.prog w base spare held fuel 25 [.slice a len cap] = some x) :
    len = 0 ∨ ∃ (b off : Nat) (Z : Nat → List Int), a = some ⟨b, off, none⟩ ∧ (∀ j, j < len → Good (Z j)) ∧ ∀ j, j < len → w.rangeAt b (off + j * 20) (cs (Z j)) := by
  by_cases h0 : len = 0
  · exact .inl h0
  right
  rcases Deep.open_slice Try.underlying25 h with ⟨hc, _⟩ | ⟨a', len', cap', m, n, D, Pl, hc, _, hl, _, hm, _, hx⟩
  · simp at hc; omega
  simp at hc
  obtain ⟨rfl, rfl, rfl⟩ := hc
  rw [arr38.size] at hx
  have hlm : len ≤ m := by rw [hm]; split <;> omega
  obtain ⟨Z, hZ⟩ := Deep.choose_lt (α := List Int) (n := len) (p := fun j l => Good l ∧ ∀ t v, (cs l)[t]? = some v → w.cell? ((a'.add (j * 20)).add t) = some v) (fun j hj => by
    obtain ⟨c, h1, h2⟩ := hx j (by omega)
    obtain ⟨l, hg, rfl⟩ := arr_good h2
    obtain ⟨_, hlen, hcell⟩ := World.cells?_some h1
    refine ⟨l, hg, fun t v hv => ?_⟩
    have ht : t < 20 := by
      have := (List.getElem?_eq_some_iff.1 hv).1
      rw [cs_length, hg.1] at this
      exact this
    rw [hcell t ht]; exact hv)
  obtain ⟨b, off, spot⟩ := a'
  have hspot : spot = none := by
    obtain ⟨hg, hc⟩ := hZ 0 (by omega)
    obtain ⟨x, e, _⟩ := cs_at hg (k := 0) (by omega)
    simpa [Addr.add] using World.cell?_spot (hc 0 _ e)
  subst hspot
  refine ⟨b, off, Z, rfl, fun j hj => (hZ j hj).1, fun j hj t v hv => ?_⟩
  have := (hZ j hj).2 t v hv
  rwa [Deep.add_add, add_plain, ← Nat.add_assoc] at this
end

/-! ### The walk, all its cases together -/
theorem below_of {w w' : World} (g : w.grownBy w' none) : Below w.heap.size w w' := ⟨g.os, g.tape, g.output, g.size, fun k hk => g.block k hk (by simp)⟩

theorem walk (a : Option Addr) (len cap : Nat) (q : List Int) (hq : Good q) (i d : Int) (w : World)
    (hids : len = 0 ∨ ∃ (b off : Nat) (Z : Nat → List Int), a = some ⟨b, off, none⟩ ∧ (∀ j, j < len → Good (Z j)) ∧ ∀ j, j < len → w.rangeAt b (off + j * 20) (cs (Z j))) :
    Calls Try.prog 4 #[.slice a len cap, .agg (cs q).toArray, .int .i64 i, .int .i64 d] w fun e w' => e = .returned (.bool true) ∧ Below w.heap.size w w' := by
  have core : Calls Try.prog 4 #[.slice a len cap, .agg (cs q).toArray, .int .i64 i, .int .i64 d] w fun e w' => e = .returned (.bool true) ∧ w.grownBy w' none := by
    by_cases he : 32768 < len ∨ i < 0 ∨ 40 ≤ i ∨ d < 0 ∨ 16 ≤ d
    · exact law_early a len cap q hq i d w he
    · rcases hids with h | ⟨b, off, Z, rfl, hZ, hr⟩
      · exact law_nil a len cap h q hq i d (by omega) (by omega) (by omega) (by omega) w (by omega)
      · exact law_main b off len cap Z hZ q hq i d (by omega) (by omega) (by omega) (by omega) w hr (by omega)
  exact core.mono fun _ _ ⟨he, g⟩ => ⟨he, below_of g⟩

/-! ### THE ROW's STEP -/
set_option maxRecDepth 100000 in
theorem lifted (os : Os) (started : os.Started) (H : Type) (enc : TypeId × Value → H) :
    ReturnsInHanded {} Try.checked os 4 .any (Rows.fnHasTellsOneDigitApartSpec.pre6 enc Try.prog Try.f4 Rows.fnHasTellsOneDigitApartRow.domain false) (Rows.fnHasTellsOneDigitApartSpec.post enc Try.prog Try.f4 false true false false) := by
  refine returnsInHanded_of_change (C := Try.checked) own started (by kernel_rfl) Try.func4
    (ChangeSpec.witness6 (enc := enc) (C := Try.checked) false ⟨#[], #[.slice none 0 0, .agg #[.int .u8 0, .int .u8 0, .int .u8 0, .int .u8 0, .int .u8 0, .int .u8 0, .int .u8 0, .int .u8 0, .int .u8 0, .int .u8 0, .int .u8 0, .int .u8 0, .int .u8 0, .int .u8 0, .int .u8 0, .int .u8 0, .int .u8 0, .int .u8 0, .int .u8 0, .int .u8 0], .int .i64 0, .int .i64 0], []⟩ 8 (by kernel_rfl) (by kernel_rfl) (by kernel_rfl) (by kernel_rfl)) ?_
  intro W base args ds gs before hval0 hW hcnd _
  have hval : ∀ (j : Nat) t v, Try.f4.params[j]? = some t → args[j]? = some v → Value.okWide Try.prog W .any base t v := hval0
  have hW' := hW
  obtain ⟨p, q, hA0, hV, rfl, hfz, hnd⟩ := hW
  have hA : DataW.TrodAll enc Try.prog W 0 (fun _ => true) true Try.f4.params.toList args.toList ds p := hA0
  rw [Try.params4] at hA hval
  obtain ⟨v0, v1, v2, v3, d0, d1, d2, d3, p0, p1, p2, p3, rfl, rfl, rfl, h0, h1, h2, h3⟩ := trodAll_four hA
  obtain ⟨rfl, rfl⟩ := trodVars_none hV
  obtain ⟨a0, len0, cap0, rfl⟩ := okWide_slice Try.underlying25 (hval 0 25 v0 rfl rfl)
  have k0 := h0
  have lt0 : ∀ x ∈ p0, x.block < W.heap.size := by obtain ⟨m, hm⟩ := k0; exact DataW.trod_lt m _ _ _ hm
  have hids : len0 = 0 ∨ ∃ (b off : Nat) (Z : Nat → List Int), a0 = some ⟨b, off, none⟩ ∧ (∀ j, j < len0 → Good (Z j)) ∧ ∀ j, j < len0 → W.rangeAt b (off + j * 20) (cs (Z j)) := by
    obtain ⟨fuel, hf⟩ := h0
    exact ids_good (by simpa [Value.cells] using hf)
  obtain ⟨xs, rfl, hxs⟩ := WideMaps.okWide_arr arr38 (hval 1 38 v1 rfl rfl)
  have k1 := h1
  have lt1 : ∀ x ∈ p1, x.block < W.heap.size := by obtain ⟨m, hm⟩ := k1; exact DataW.trod_lt m _ _ _ hm
  obtain ⟨qq, hqg, hqe⟩ : ∃ l, Good l ∧ xs.toList = cs l := by
    obtain ⟨fuel, hf⟩ := h1
    exact arr_good (by simpa [Value.cells] using hf)
  obtain rfl : xs = (cs qq).toArray := by rw [← hqe]
  obtain ⟨a2, rfl, rfl, rfl, w2⟩ := open_int Try.underlying3 (hval 2 3 v2 rfl rfl) h2
  obtain ⟨a3, rfl, rfl, rfl, w3⟩ := open_int Try.underlying3 (hval 3 3 v3 rfl rfl) h3
  clear hA0 hval0
  refine (walk a0 len0 cap0 qq hqg a2 a3 W hids).mono fun e W' ⟨he, bel⟩ => ?_
  subst he
  exact ⟨_, rfl, _, _, _, [], _, [], hW', trodAll_mk1 (shut_bool Try.underlying4 _), trodAll_mk4 (Below.trod laidOut (by kernel_rfl) (of_decide_eq_true (by kernel_rfl)) k0 bel lt0) (Below.trod laidOut (by kernel_rfl) (of_decide_eq_true (by kernel_rfl)) k1 bel lt1) (shut_int Try.underlying3 w2) (shut_int Try.underlying3 w3), rfl, bel.frame _, fun h => by cases h⟩

theorem over : Rows.fnHasTellsOneDigitApartRow.holds Try.pinned (OpenSpec.ofChange Rows.fnHasTellsOneDigitApartSpec) :=
  OpenClaim.holds_of_wide 4 Try.f4 rfl rfl rfl rfl rfl rfl rfl ⟨rfl, rfl, rfl, rfl, rfl⟩ rfl rfl rfl rfl rfl (by kernel_rfl) Try.func4 (by kernel_rfl)
    (of_decide_eq_true (by kernel_rfl)) (by unfold Func.isWrapper; first | (rw [if_pos (by decide +kernel)]; kernel_rfl) | (rw [if_neg (by decide +kernel)]; exact ⟨rfl, rfl⟩))
    (fun os started H enc _ => lifted os started H enc)

theorem proved : Rows.FnHasTellsOneDigitApartSaid := over
#print axioms proved
end Go.Proofs.Qxb6613544a.fnHasTellsOneDigitApart
