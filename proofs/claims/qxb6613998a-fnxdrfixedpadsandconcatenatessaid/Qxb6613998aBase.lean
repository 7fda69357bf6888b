/-
  Rows of bytes that the call owns; what a step leaves alone; the contract of 'cloneBytes'.
-/
import Derived.Test.Qxb6613998aRows
import Derived.WalkKit
import Derived.WalkSpells
import Derived.WalkLawsBesides
import Derived.Maps.AppendAt
import Derived.Laws.AppendOwnNone
import Derived.Laws.OwnMore
namespace Go.Proofs.Qxb6613998a
open Go.RowKit

/-- The slice at address a, of capacity cap, owns a row of its own, whose elements are the bytes zs. -/
def Row (w : World) (a : Option Addr) (cap : Nat) (zs : List Int) : Prop := w.ownsRow 0 5 1 (.slice a zs.length cap) zs.length (zs.map (Value.int .u8))
/-- Its block. -/
def blk (a : Option Addr) : Option Nat := a.map (·.block)

/-- w' has grown out of w; of the old blocks only those of p may have been written. -/
structure Kp (p : Nat → Prop) (w w' : World) : Prop where
  os : w'.os = w.os
  tape : w'.tape = w.tape
  output : w'.output = w.output
  size : w.heap.size ≤ w'.heap.size
  block : ∀ k, k < w.heap.size → ¬ p k → w'.heap[k]? = w.heap[k]?

theorem Kp.refl (p : Nat → Prop) (w : World) : Kp p w w := ⟨rfl, rfl, rfl, Nat.le_refl _, fun _ _ _ => rfl⟩
theorem Kp.of {w w' : World} {row : Option Nat} (g : w.grownBy w' row) {p : Nat → Prop} (h : ∀ k, k < w.heap.size → row = some k → p k) : Kp p w w' :=
  ⟨g.os, g.tape, g.output, g.size, fun k hk hn => g.block k hk (fun e => hn (h k hk e.symm))⟩
theorem Kp.trans {p q : Nat → Prop} {w w1 w2 : World} (h : Kp p w w1) (k : Kp q w1 w2) (hq : ∀ j, j < w.heap.size → q j → p j) : Kp p w w2 :=
  ⟨k.os.trans h.os, k.tape.trans h.tape, k.output.trans h.output, Nat.le_trans h.size k.size,
   fun j hj hn => (k.block j (Nat.lt_of_lt_of_le hj h.size) (fun e => hn (hq j hj e))).trans (h.block j hj hn)⟩
theorem Kp.mono {p q : Nat → Prop} {w w1 : World} (h : Kp p w w1) (hq : ∀ j, j < w.heap.size → p j → q j) : Kp q w w1 :=
  ⟨h.os, h.tape, h.output, h.size, fun j hj hn => h.block j hj (fun e => hn (hq j hj e))⟩
theorem Kp.drew {p : Nat → Prop} {w w1 : World} (h : Kp p w w1) : Kp p w w1.drew := ⟨h.os, h.tape, h.output, h.size, h.block⟩
theorem Kp.setCell {p : Nat → Prop} {w w1 : World} (h : Kp p w w1) (a : Addr) (v : Value) (ha : a.block < w.heap.size → p a.block) : Kp p w (w1.setCell a v) :=
  h.trans (q := fun k => k = a.block) ⟨rfl, rfl, rfl, by simp [World.setCell], fun k _ hk => heap_setCell_other w1 a k v hk⟩ (fun j hj e => by subst e; exact ha hj)
theorem Kp.alloc {p : Nat → Prop} {w w1 : World} (h : Kp p w w1) (o : Obj) : Kp p w (w1.alloc o) :=
  h.trans (q := fun _ => False) ⟨rfl, rfl, rfl, by simp, fun k hk _ => Below.heap_alloc w1 o k hk⟩ (fun _ _ h => h.elim)

theorem Row.kept {p : Nat → Prop} {w w' : World} {a : Option Addr} {cap : Nat} {zs : List Int} (h : Row w a cap zs) (k : Kp p w w') (hne : ∀ j, blk a = some j → ¬ p j) : Row w' a cap zs := by
  refine ⟨h.1, ?_⟩
  rcases h.2 with hn | ⟨g, c, cur, hv, hb, hgg, rest⟩
  · exact .inl hn
  · refine .inr ⟨g, c, cur, hv, hb, ?_, rest⟩
    have ha : a = some ⟨g, 0, none⟩ := by injection hv
    rw [k.block g (Array.getElem?_eq_some_iff.1 hgg).1 (hne g (by rw [ha]; rfl))]
    exact hgg

theorem Row.lt {w : World} {a : Option Addr} {cap : Nat} {zs : List Int} (h : Row w a cap zs) {k : Nat} (hk : blk a = some k) : k < w.heap.size := by
  rcases h.2 with ⟨hn, _⟩ | ⟨g, c, cur, hv, hb, hgg, rest⟩
  · injection hn with h1; rw [h1] at hk; cases hk
  · injection hv with h1
    rw [h1] at hk
    simp [blk] at hk
    subst hk
    exact (Array.getElem?_eq_some_iff.1 hgg).1

/-- Its shape. -/
theorem Row.shape {w : World} {a : Option Addr} {cap : Nat} {zs : List Int} (h : Row w a cap zs) : (a = none ∧ zs = [] ∧ cap = 0) ∨ ∃ g, a = some ⟨g, 0, none⟩ := by
  rcases h.2 with ⟨hn, h0⟩ | ⟨g, c, cur, hv, _⟩
  · injection hn with h1 h2 h3
    exact .inl ⟨h1, List.eq_nil_of_length_eq_zero h0, h3⟩
  · injection hv with h1
    exact .inr ⟨g, h1⟩

theorem Row.cell {w : World} {g cap : Nat} {zs : List Int} (h : Row w (some ⟨g, 0, none⟩) cap zs) {j : Nat} (hj : j < zs.length) : w.cell? ⟨g, j, none⟩ = some (.int .u8 (zs.getD j 0)) := by
  have := World.ownsRow.cellAt h j (by omega)
  rw [this]
  simp [hj]

theorem row_nil (w : World) : Row w none 0 [] := World.ownsRow_nil w 0 5 1

theorem info5 : (Try.prog.info? 5).map (fun i => (i.zero, i.size, i.bytes)) = some (some (.int .u8 0), 1, 1) := by kernel_rfl
theorem ret_slice {a b : Option Addr} {n n' c c' : Nat} (h1 : a = b) (h2 : n = n') (h3 : c = c') : Ending.returned (.slice a n c) = .returned (.slice b n' c') := by subst h1 h2 h3; rfl

/-- A slice that came in, as 'cloneBytes' reads it. -/
def Rd (w : World) (a : Option Addr) (len cap : Nat) (zs : List Int) : Prop :=
  zs.length = len ∧ ((a = none ∧ len = 0 ∧ cap = 0) ∨ (∃ x, a = some x ∧ len = 0) ∨ ∃ b off, a = some ⟨b, off, none⟩ ∧ ∀ j, j < len → w.cell? ⟨b, off + j, none⟩ = some (.int .u8 (zs.getD j 0)))

/-- What 'cloneBytes' leaves: a new row of the same bytes. -/
def Cloned (w w' : World) (zs : List Int) (e : Ending) : Prop :=
  ∃ a cap, e = .returned (.slice a zs.length cap) ∧ Row w' a cap zs ∧ Kp (fun _ => False) w w' ∧ ∀ k, blk a = some k → w.heap.size ≤ k ∧ k < w'.heap.size

set_option maxHeartbeats 400000 in
theorem clone_nil (w : World) : Calls Try.prog 7 #[.slice none 0 0] w fun e w' => Cloned w w' [] e := by
  have hnil := fun (w : World) (a : Option Addr) (n c : Nat) => Lib.run_eql_slice_nil (P := Try.prog) w 22 5 a n c 0 0 Try.underlying22
  go_enter Try.func7, Try.ntmps7
  go_wp2
  go_ret
  exact ⟨none, 0, rfl, row_nil w, Kp.refl _ _, fun k hk => by cases hk⟩

theorem row_copied {w wr : World} {n : Nat} {zs : List Int} (hz : zs.length = n) {ys : List Value} (ho : wr.ownsRow w.heap.size 5 1 (.slice (some ⟨w.heap.size, 0, none⟩) n n) n ys) (hy : ∀ j, j < n → ys[j]? = some (.int .u8 (zs.getD j 0))) :
    Row wr (some ⟨w.heap.size, 0, none⟩) n zs := by
  subst hz
  have e : ys = zs.map (Value.int .u8) := by
    have hl : ys.length = zs.length := by simpa using ho.1
    apply List.ext_getElem?
    intro j
    by_cases hj : j < zs.length
    · rw [hy j hj]; simp [hj]
    · rw [List.getElem?_eq_none (by omega), List.getElem?_eq_none (by simp; omega)]
  subst e
  obtain ⟨h1, h2⟩ := ho
  refine ⟨h1, ?_⟩
  rcases h2 with h2 | ⟨g, c, cur, a1, a2, a3⟩
  · exact .inl h2
  · exact .inr ⟨g, c, cur, a1, Nat.zero_le _, a3⟩

theorem clone_step {ys : List Value} {zs : List Int} {k : Nat} (h : Hid (∀ j, j < k → ys[j]? = some (.int .u8 (zs.getD j 0)))) {x : Int} (hx : x = zs.getD k 0) (hk : k < ys.length) :
    Hid (∀ j, j < k + 1 → (ys.set k (.int .u8 x))[j]? = some (.int .u8 (zs.getD j 0))) := by
  intro j hj
  by_cases e : k = j
  · subst e; rw [List.getElem?_set_self hk, hx]
  · rw [List.getElem?_set_ne e]; exact h j (by omega)

set_option maxHeartbeats 1000000 in
theorem clone_some (b off n cap : Nat) (zs : List Int) (hz : zs.length = n) (hn : n ≤ 1048576) (w : World) (hc : ∀ j, j < n → w.cell? ⟨b, off + j, none⟩ = some (.int .u8 (zs.getD j 0))) (hpos : 0 < n) :
    Calls Try.prog 7 #[.slice (some ⟨b, off, none⟩) n cap] w fun e w' => Cloned w w' zs e := by
  have hnil := fun (w : World) (a : Option Addr) (n c : Nat) => Lib.run_eql_slice_nil (P := Try.prog) w 22 5 a n c 0 0 Try.underlying22
  obtain ⟨i0, hi, hz0, hz1, hz2⟩ := info_parts info5
  have hb : b < w.heap.size := World.block_lt_of_cell? w ⟨b, off + 0, none⟩ (hc 0 hpos)
  go_enter Try.func7, Try.ntmps7
  go_wp2_with (at_make; refine wpList_make_full _ rfl (.tmp 8) (.tmp 8) 22 rfl w.heap.size 5 i0 (.int .u8 0) 1 Try.underlying22 hi hz0 hz1 .i64 .i64 n n n rfl rfl rfl rfl (by rw [hz2]; omega) (by unfold maxLen; omega) (Nat.le_refl _) ?_; intro w1 hown1 hg1)
  go_loopw [4] (fun i wr => ∃ (k : Nat) (ys : List Value), k ≤ n ∧ i = .int .i64 k ∧ wr.ownsRow w.heap.size 5 1 (.slice (some ⟨w.heap.size, 0, none⟩) n n) n ys ∧ Hid (∀ j, j < k → ys[j]? = some (.int .u8 (zs.getD j 0))) ∧ Kp (fun _ => False) w wr) (fun i _ => n - (intOf i).toNat)
  case atStart => exact ⟨0, _, Nat.zero_le _, rfl, hown1, fun j hj => absurd hj (Nat.not_lt_zero _), Kp.of hg1 (by simp)⟩
  case round =>
    obtain ⟨k, ys, hk, rfl, ho, hy, hkp⟩ := hrel
    clear hown1 hg1
    by_cases hlt : k < n
    · obtain ⟨x, hx⟩ : ∃ x, x = zs.getD k 0 := ⟨_, rfl⟩
      have hcx : wr.cell? ⟨b, off + k, none⟩ = some (.int .u8 x) := by rw [hx]; exact (World.cell?_of_block (w := w) (hkp.block b hb (by simp))).trans (hc k hlt)
      have hl : ys.length = n := by simpa using ho.1
      obtain ⟨u, hcy⟩ : ∃ u, wr.cell? ⟨w.heap.size, k, none⟩ = some u := ⟨ys[k], by rw [World.ownsRow.cellAt ho k (by omega), List.getElem?_eq_getElem (by omega)]⟩
      have hfy : wr.frozen? ⟨w.heap.size, k, none⟩ = false := World.ownsRow.frozenAt ho k
      have o2 := (World.ownsRow.stored ho k (.int .u8 x)).1
      have R := clone_step hy hx (by omega)
      have hkp2 : Kp (fun _ => False) w (wr.setCell ⟨w.heap.size, k, none⟩ (.int .u8 x)) := hkp.setCell _ _ (fun h => absurd h (Nat.lt_irrefl _))
      clear ho hy hkp hl hx hc hz
      go_wp2
      go_roundw
      case rel => exact ⟨k + 1, _, by omega, by go_num, o2, R, hkp2⟩
      case measure => simp [intOf]; omega
    · have hkn : k = n := by omega
      have F : Cloned w wr zs (.returned (.slice (some ⟨w.heap.size, 0, none⟩) n n)) := ⟨some ⟨w.heap.size, 0, none⟩, n, by rw [hz], row_copied hz ho (fun j hj => hy j (by omega)), hkp, fun k hk => by
        simp [blk] at hk
        subst hk
        exact ⟨Nat.le_refl _, (World.ownsRow.lt ho w.heap.size rfl).2⟩⟩
      clear ho hy hkp hc hz hkn
      go_wp2
      go_ret
      exact F

set_option maxHeartbeats 1000000 in
theorem clone_empty (x : Addr) (cap : Nat) (w : World) : Calls Try.prog 7 #[.slice (some x) 0 cap] w fun e w' => Cloned w w' [] e := by
  have hnil := fun (w : World) (a : Option Addr) (n c : Nat) => Lib.run_eql_slice_nil (P := Try.prog) w 22 5 a n c 0 0 Try.underlying22
  obtain ⟨i0, hi, hz0, hz1, hz2⟩ := info_parts info5
  go_enter Try.func7, Try.ntmps7
  go_wp2_with (at_make; refine wpList_make_full _ rfl (.tmp 8) (.tmp 8) 22 rfl w.heap.size 5 i0 (.int .u8 0) 1 Try.underlying22 hi hz0 hz1 .i64 .i64 0 0 0 rfl rfl rfl rfl (by omega) (by unfold maxLen; omega) (Nat.le_refl _) ?_; intro w1 hown1 hg1)
  have F : Cloned w w1 [] (.returned (.slice (some ⟨w.heap.size, 0, none⟩) 0 0)) := ⟨some ⟨w.heap.size, 0, none⟩, 0, rfl, row_copied rfl hown1 (fun j hj => absurd hj (Nat.not_lt_zero _)), Kp.of hg1 (by simp), fun k hk => by
    simp [blk] at hk
    subst hk
    exact ⟨Nat.le_refl _, (World.ownsRow.lt hown1 w.heap.size rfl).2⟩⟩
  clear hown1 hg1
  go_loopw [4] (fun i wr => i = .int .i64 0 ∧ wr = w1) (fun _ _ => 0)
  case atStart => exact ⟨rfl, rfl⟩
  case round =>
    obtain ⟨rfl, rfl⟩ := hrel
    go_wp2
    go_ret
    exact F

theorem clone_any (a : Option Addr) (len cap : Nat) (zs : List Int) (hn : len ≤ 1048576) (w : World) (h : Rd w a len cap zs) : Calls Try.prog 7 #[.slice a len cap] w fun e w' => Cloned w w' zs e := by
  obtain ⟨hz, h⟩ := h
  by_cases h0 : len = 0
  · have e : zs = [] := List.eq_nil_of_length_eq_zero (by omega)
    subst h0 e
    cases a with
    | none =>
      rcases h with ⟨_, _, rfl⟩ | ⟨x, h, _⟩ | ⟨b, off, h, _⟩
      · exact clone_nil w
      · cases h
      · cases h
    | some x => exact clone_empty x cap w
  · rcases h with ⟨_, h, _⟩ | ⟨x, _, h⟩ | ⟨b, off, rfl, hc⟩
    · exact absurd h h0
    · exact absurd h h0
    · exact clone_some b off len cap zs hz hn w hc (by omega)
/-- Of a row of one's own. -/
theorem Row.rd {w : World} {a : Option Addr} {cap : Nat} {zs : List Int} (h : Row w a cap zs) : Rd w a zs.length cap zs := by
  refine ⟨rfl, ?_⟩
  rcases h.shape with ⟨rfl, rfl, rfl⟩ | ⟨g, rfl⟩
  · exact .inl ⟨rfl, rfl, rfl⟩
  · exact .inr (.inr ⟨g, 0, rfl, fun j hj => by rw [Nat.zero_add]; exact h.cell hj⟩)
end Go.Proofs.Qxb6613998a
