/-
  The store, seen as the set of the IDs that it holds; the contracts of its functions in those words.
-/
import Derived.Test.Qxb6613544aDig
namespace Go.Proofs.Qxb6613544a
open Go.RowKit
open Go.Maps (Keyed)

/-- In world w, which has grown out of w0, the store at block sb holds just the IDs of Hs; its map is block bm, of at most n entries. -/
def St (w0 w : World) (sb bm n : Nat) (Hs : List Int → Prop) : Prop :=
  ∃ D, w.ownsMap Try.prog 39 certR bm n D ∧ (∀ l, Good l → (Maps.has D (K l) = true ↔ Hs l)) ∧ w.cell? ⟨sb, 1, none⟩ = some (.map (some bm)) ∧ w0.grownBy w none

theorem St.grown {w0 w : World} {sb bm n : Nat} {Hs : List Int → Prop} (h : St w0 w sb bm n Hs) : w0.grownBy w none := by
  obtain ⟨_, _, _, _, g⟩ := h; exact g
theorem St.range {w0 w : World} {sb bm n : Nat} {Hs : List Int → Prop} (h : St w0 w sb bm n Hs) {b o : Nat} {c : List Value} (hr : w0.rangeAt b o c) : w.rangeAt b o c :=
  fun j v hj => h.grown.cell (hr j v hj) (by simp)
theorem St.kept {w0 w w' : World} {sb bm n : Nat} {Hs : List Int → Prop} (h : St w0 w sb bm n Hs) (g : w.grownBy w' none) : St w0 w' sb bm n Hs := by
  obtain ⟨D, h1, h2, h3, h4⟩ := h
  exact ⟨D, h1.kept g (by simp), h2, g.cell h3 (by simp), h4.trans g⟩
/-- Seen from a later world. -/
theorem St.rebase {w0 w : World} {sb bm n : Nat} {Hs : List Int → Prop} (h : St w0 w sb bm n Hs) : St w w sb bm n Hs := by
  obtain ⟨D, h1, h2, h3, h4⟩ := h
  exact ⟨D, h1, h2, h3, World.grownBy.refl _ _⟩

theorem St.made {w0 w : World} (g : w0.grownBy w none) : St w0 ((w.alloc (.map #[] 0)).alloc (.cells #[.slice none 0 0, .map (some w.heap.size), .int .u64 0, .int .i64 0, .pointer none] 91)) (w.heap.size + 1) w.heap.size 0 (fun _ => False) := by
  refine ⟨.map [], (World.ownsMap_made w _ _ _).alloc _, fun l _ => ?_, ?_, (g.trans (World.grownBy_alloc w _ _)).trans (World.grownBy_alloc _ _ _)⟩
  · simp [Maps.has]
  · rw [cell_of_row _ _ _ _ _ _ (heap_alloc2_new w _ _)]
    rfl

theorem put_st (l : List Int) (hl : Good l) {w0 w : World} {sb bm n : Nat} {Hs : List Int → Prop} (h : St w0 w sb bm n Hs) (hn : n < maxLen) (hb : w0.heap.size ≤ bm) :
    Calls Try.prog 22 #[.pointer (some ⟨sb, 0, none⟩), .agg (cs l).toArray] w fun e w' => e = .returned (.tuple #[]) ∧ St w0 w' sb bm (n + 1) (fun l' => l' = l ∨ Hs l') := by
  obtain ⟨D, h1, h2, h3, h4⟩ := h
  refine (put_any l hl sb bm n D w h3 h1 hn).mono fun e w' ⟨he, o1, g1⟩ => ⟨he, D.put (K l) .nil, o1, fun l' hl' => ?_, ?_, ?_⟩
  · by_cases e : l' = l
    · subst e
      simp [Maps.has_put_same h1.isMap (law.key (key39 hl))]
    · rw [Maps.has_put_other (fun e' => e ((K_inj hl' hl).1 e')), h2 l' hl']
      simp [e]
  · exact g1.cell h3 (by simpa using ne_map h3 h1)
  · exact grown_new h4 g1 hb

theorem has_st (l : List Int) (hl : Good l) {w0 w : World} {sb bm n : Nat} {Hs : List Int → Prop} (h : St w0 w sb bm n Hs) (b : Bool) (hb : b = true ↔ Hs l) :
    Calls Try.prog 25 #[.pointer (some ⟨sb, 0, none⟩), .agg (cs l).toArray] w fun e w' => e = .returned (.bool b) ∧ St w0 w' sb bm n Hs := by
  have h' := h
  obtain ⟨D, h1, h2, h3, h4⟩ := h
  refine (has_any l hl sb bm n D w h3 h1).mono fun e w' ⟨he, g⟩ => ⟨?_, h'.kept g⟩
  have : Maps.has D (K l) = b := by
    rw [Bool.eq_iff_iff, h2 l hl, hb]
  rw [he, this]

theorem with_st (l : List Int) (hl : Good l) (i d : Int) (h0 : 0 ≤ i) (h1 : i < 40) (d0 : 0 ≤ d) (d1 : d < 16) {w0 w : World} {sb bm n : Nat} {Hs : List Int → Prop} (h : St w0 w sb bm n Hs) :
    Calls Try.prog 23 #[.agg (cs l).toArray, .int .i64 i, .int .i64 d] w fun e w' => e = .returned (.agg (cs (wd l i d)).toArray) ∧ St w0 w' sb bm n Hs :=
  (with_any l hl i d h0 h1 d0 d1 w).mono fun _ _ ⟨he, g⟩ => ⟨he, h.kept g⟩

theorem digit_st (l : List Int) (hl : Good l) (i : Int) (h0 : 0 ≤ i) (h1 : i < 40) {w0 w : World} {sb bm n : Nat} {Hs : List Int → Prop} (h : St w0 w sb bm n Hs) :
    Calls Try.prog 24 #[.agg (cs l).toArray, .int .i64 i] w fun e w' => e = .returned (.int .i64 (dg l i)) ∧ St w0 w' sb bm n Hs :=
  (digit_any l hl i h0 h1 w).mono fun _ _ ⟨he, g⟩ => ⟨he, h.kept g⟩
end Go.Proofs.Qxb6613544a
