/-
  The contracts of 'WithDigit', 'Digit' and 'ZZnewCertificateStore'; and the plain law on one digit.
-/
import Derived.Test.Qxb6613544aHas
namespace Go.Proofs.Qxb6613544a
open Go.RowKit

theorem cs_at {l : List Int} (hl : Good l) {k : Nat} (hk : k < 20) : ∃ x, (cs l)[k]? = some (.int .u8 x) ∧ l[k]? = some x ∧ 0 ≤ x ∧ x ≤ 255 := by
  have hk' : k < l.length := by rw [hl.1]; exact hk
  refine ⟨l[k], by simp [cs, hk'], by simp [hk'], ?_⟩
  exact hl.2 _ (List.getElem_mem hk')

theorem bits_fin (y : Fin 256) : bits BinOp.and IntKind.i64 (y.val : Int) 15 = ((y.val % 16 : Nat) : Int) := by revert y; decide +kernel
theorem and15 {x : Int} (x0 : 0 ≤ x) (x1 : x ≤ 255) : bits BinOp.and IntKind.i64 x 15 = x % 16 := by
  obtain ⟨n, rfl⟩ := Int.eq_ofNat_of_zero_le x0
  exact (bits_fin ⟨n, by omega⟩).trans (by simp)
theorem ret_int {k : IntKind} {a b : Int} (h : a = b) : Ending.returned (.int k a) = .returned (.int k b) := by rw [h]

set_option maxRecDepth 100000 in
set_option maxHeartbeats 1000000 in
theorem digit_hi (l : List Int) (i x : Int) (h0 : 0 ≤ i) (h1 : i < 40) (hx : (cs l)[(i * 4 / 8).toNat]? = some (.int .u8 x)) (x0 : 0 ≤ x) (x1 : x ≤ 255) (hp : i * 4 % 8 = 0) (w : World) :
    Calls Try.prog 24 #[.agg (cs l).toArray, .int .i64 i] w fun e w' => e = .returned (.int .i64 (x / 16)) ∧ w.grownBy w' none := by
  go_enter Try.func24, Try.ntmps24
  go_wp2
  go_ret
  exact ⟨ret_int (by rw [and15 (by omega) (by omega)]; omega), World.grownBy_alloc w _ _⟩
set_option maxRecDepth 100000 in
set_option maxHeartbeats 1000000 in
theorem digit_lo (l : List Int) (i x : Int) (h0 : 0 ≤ i) (h1 : i < 40) (hx : (cs l)[(i * 4 / 8).toNat]? = some (.int .u8 x)) (x0 : 0 ≤ x) (x1 : x ≤ 255) (hp : i * 4 % 8 = 4) (w : World) :
    Calls Try.prog 24 #[.agg (cs l).toArray, .int .i64 i] w fun e w' => e = .returned (.int .i64 (x % 16)) ∧ w.grownBy w' none := by
  go_enter Try.func24, Try.ntmps24
  go_wp2
  go_ret
  exact ⟨ret_int (and15 x0 x1), World.grownBy_alloc w _ _⟩

theorem new_any (w : World) :
    Calls Try.prog 21 #[] w fun e w' => e = .returned (.pointer (some ⟨w.heap.size + 1, 0, none⟩)) ∧ w' = (w.alloc (.map #[] 0)).alloc (.cells #[.slice none 0 0, .map (some w.heap.size), .int .u64 0, .int .i64 0, .pointer none] 91) := by
  have hmm := @run_makeMap Try.prog
  go_enter Try.func21, Try.ntmps21
  go_wp2
  go_ret
  exact ⟨rfl, rfl⟩

theorem cs_one (m : List Int) : (cs m).toArray.all (·.oneCell') = true := by
  apply all_oneCell_toArray
  intro v hv
  simp only [cs, List.mem_map] at hv
  obtain ⟨n, _, rfl⟩ := hv
  rfl
theorem range2 (w : World) (m : List Int) (o : Obj) : ((w.alloc (.cells (cs m).toArray 39)).alloc o).drew.rangeAt w.heap.size 0 (cs m) := by
  have h := range_new w m 39
  intro j v hj
  exact (World.grownBy_alloc (w.alloc (.cells (cs m).toArray 39)) o none).cell (h j v hj) (by simp)
theorem there2 (w : World) (o1 : Obj) (Z : Array Value) (hZ : Z.size = 20) (m : List Int) (hm : m.length = 20) : ((w.alloc o1).alloc (.cells Z 39)).drew.there (w.heap.size + 1) 0 (cs m).toArray.size := by
  intro j hj
  have hj' : j < 20 := by simpa [cs, hm] using hj
  have hg : ((w.alloc o1).alloc (.cells Z 39)).drew.heap[w.heap.size + 1]? = some (.cells Z 39 (0, 0)) := heap_alloc2_new w o1 _
  refine ⟨?_, frozen_of_row _ _ _ _ _ hg⟩
  rw [cell_of_row _ _ _ _ _ _ hg]
  have : (0 + j) < Z.size := by omega
  rw [Array.getElem?_eq_getElem this]
  rfl
theorem results_cell {P : Program} {fn : Func} {p : Tmp} {ty : TypeId} (h : fn.results = #[.cell p ty]) (tmps : Array Value) (w : World) (a : Addr) (v : Value) (hp : tmps.getD p undef = .pointer (some a)) (hl : (loadVar ty a).run P w = .ok v w) :
    (results fn tmps).run P w = .ok v w := by
  have hp' : tmps[p]?.getD undef = .pointer (some a) := by simpa using hp
  simp [results, h, hp', asAddr, hl]
theorem run_res (m : List Int) (hm : m.length = 20) (hu39 : Try.prog.underlying 39 = some (.array 20 5)) (hi39 : (Try.prog.info? 39).map (·.size) = some (cs m).length) (w : World) (o1 : Obj) (Z : Array Value) (hZ : Z.size = 20) :
    (loadVar 39 ⟨w.heap.size + 1, 0, none⟩).run Try.prog (((w.alloc o1).alloc (.cells Z 39)).drew.setCells (w.heap.size + 1) 0 (cs m)) = .ok (.agg (cs m).toArray) (((w.alloc o1).alloc (.cells Z 39)).drew.setCells (w.heap.size + 1) 0 (cs m)) :=
  run_loadVar_mid _ _ _ 39 (cs m) _ (World.rangeAt_setCells_same _ _ _ _ (by have := there2 w o1 Z hZ m hm; simpa using this)) hu39 rfl hi39
theorem grown2 (w : World) (o1 o2 : Obj) (vs : List Value) : w.grownBy (((w.alloc o1).alloc o2).drew.setCells (w.heap.size + 1) 0 vs) none :=
  grown_new (grown_drew ((World.grownBy_alloc w o1 none).trans (World.grownBy_alloc (w.alloc o1) o2 none))) (grown_setCells _ _ _ _) (by omega)

set_option maxRecDepth 100000 in
set_option maxHeartbeats 1000000 in
theorem with_hi (l m : List Int) (hm : m.length = 20) (i x d y : Int) (h0 : 0 ≤ i) (h1 : i < 40) (hx : (cs l)[(i * 4 / 8).toNat]? = some (.int .u8 x)) (d0 : 0 ≤ d) (d1 : d < 16) (hp : i * 4 % 8 = 0)
    (hy : bits BinOp.or IntKind.u8 (bits BinOp.andNot IntKind.u8 x 240) (bits BinOp.and IntKind.u8 (d * 16) 240) = y) (hcs : (cs l).set (i * 4 / 8).toNat (.int .u8 y) = cs m) (w : World) :
    Calls Try.prog 23 #[.agg (cs l).toArray, .int .i64 i, .int .i64 d] w fun e w' => e = .returned (.agg (cs m).toArray) ∧ w.grownBy w' none := by
  have hu39 := Try.underlying39
  have hi39 : (Try.prog.info? 39).map (·.size) = some (cs m).length := by rw [cs_length, hm]; exact info39
  have hi39' : (Try.prog.info? 39).map (·.size) = some (cs m).toArray.size := by simpa using hi39
  have h1c := cs_one m
  go_enter Try.func23, Try.ntmps23
  go_wp2
  go_region
  go_wp2_with (first
    | refine wpList_load_mid rfl 39 (.tmp 3) rfl w.heap.size 0 rfl (cs m) _ (range2 w m _) hu39 rfl hi39 ?_
    | refine wpList_store_mid rfl 39 (.tmp 6) (.tmp 33) rfl (w.heap.size + 1) 0 (cs m).toArray rfl rfl (there2 w _ _ rfl m hm) hi39' h1c ?_)
  refine bodyPost_ret (v := .agg (cs m).toArray) ?_ rfl ⟨rfl, ?_⟩
  · exact results_cell Try.results23 _ _ ⟨w.heap.size + 1, 0, none⟩ _ rfl (run_res m hm hu39 hi39 w _ _ (by rfl))
  · exact grown2 w _ _ _

set_option maxRecDepth 100000 in
set_option maxHeartbeats 1000000 in
theorem with_lo (l m : List Int) (hm : m.length = 20) (i x d y : Int) (h0 : 0 ≤ i) (h1 : i < 40) (hx : (cs l)[(i * 4 / 8).toNat]? = some (.int .u8 x)) (d0 : 0 ≤ d) (d1 : d < 16) (hp : i * 4 % 8 = 4)
    (hy : bits BinOp.or IntKind.u8 (bits BinOp.andNot IntKind.u8 x 15) (d % 16) = y) (hcs : (cs l).set (i * 4 / 8).toNat (.int .u8 y) = cs m) (w : World) :
    Calls Try.prog 23 #[.agg (cs l).toArray, .int .i64 i, .int .i64 d] w fun e w' => e = .returned (.agg (cs m).toArray) ∧ w.grownBy w' none := by
  have hu39 := Try.underlying39
  have hi39 : (Try.prog.info? 39).map (·.size) = some (cs m).length := by rw [cs_length, hm]; exact info39
  have hi39' : (Try.prog.info? 39).map (·.size) = some (cs m).toArray.size := by simpa using hi39
  have h1c := cs_one m
  go_enter Try.func23, Try.ntmps23
  go_wp2
  go_region
  go_wp2_with (first
    | refine wpList_load_mid rfl 39 (.tmp 3) rfl w.heap.size 0 rfl (cs m) _ (range2 w m _) hu39 rfl hi39 ?_
    | refine wpList_store_mid rfl 39 (.tmp 6) (.tmp 33) rfl (w.heap.size + 1) 0 (cs m).toArray rfl rfl (there2 w _ _ rfl m hm) hi39' h1c ?_)
  refine bodyPost_ret (v := .agg (cs m).toArray) ?_ rfl ⟨rfl, ?_⟩
  · exact results_cell Try.results23 _ _ ⟨w.heap.size + 1, 0, none⟩ _ rfl (run_res m hm hu39 hi39 w _ _ (by rfl))
  · exact grown2 w _ _ _


/-! ### the plain law on one digit -/
def place (i : Int) : Nat := (i * 4 / 8).toNat
def byteAt (l : List Int) (i : Int) : Int := l.getD (place i) 0
/-- Digit i. -/
def dg (l : List Int) (i : Int) : Int := if i * 4 % 8 = 0 then byteAt l i / 16 else byteAt l i % 16
/-- The byte with that digit set. -/
def nb (l : List Int) (i d : Int) : Int := if i * 4 % 8 = 0 then byteAt l i % 16 + 16 * d else 16 * (byteAt l i / 16) + d
def wd (l : List Int) (i d : Int) : List Int := l.set (place i) (nb l i d)

theorem hi_fin : ∀ (x : Fin 256) (d : Fin 16), bits BinOp.or IntKind.u8 (bits BinOp.andNot IntKind.u8 (x.val : Int) 240) (bits BinOp.and IntKind.u8 ((d.val : Int) * 16) 240) = (x.val : Int) % 16 + 16 * (d.val : Int) := by decide +kernel
theorem lo_fin : ∀ (x : Fin 256) (d : Fin 16), bits BinOp.or IntKind.u8 (bits BinOp.andNot IntKind.u8 (x.val : Int) 15) ((d.val : Int) % 16) = 16 * ((x.val : Int) / 16) + (d.val : Int) := by decide +kernel
theorem hi_bits {x d : Int} (x0 : 0 ≤ x) (x1 : x ≤ 255) (d0 : 0 ≤ d) (d1 : d < 16) : bits BinOp.or IntKind.u8 (bits BinOp.andNot IntKind.u8 x 240) (bits BinOp.and IntKind.u8 (d * 16) 240) = x % 16 + 16 * d := by
  obtain ⟨n, rfl⟩ := Int.eq_ofNat_of_zero_le x0
  obtain ⟨k, rfl⟩ := Int.eq_ofNat_of_zero_le d0
  exact hi_fin ⟨n, by omega⟩ ⟨k, by omega⟩
theorem lo_bits {x d : Int} (x0 : 0 ≤ x) (x1 : x ≤ 255) (d0 : 0 ≤ d) (d1 : d < 16) : bits BinOp.or IntKind.u8 (bits BinOp.andNot IntKind.u8 x 15) (d % 16) = 16 * (x / 16) + d := by
  obtain ⟨n, rfl⟩ := Int.eq_ofNat_of_zero_le x0
  obtain ⟨k, rfl⟩ := Int.eq_ofNat_of_zero_le d0
  exact lo_fin ⟨n, by omega⟩ ⟨k, by omega⟩

theorem place_lt {i : Int} (h0 : 0 ≤ i) (h1 : i < 40) : place i < 20 := by unfold place; omega
theorem byte_bd {l : List Int} (hl : Good l) {i : Int} (h0 : 0 ≤ i) (h1 : i < 40) : 0 ≤ byteAt l i ∧ byteAt l i ≤ 255 ∧ l[place i]? = some (byteAt l i) ∧ (cs l)[place i]? = some (.int .u8 (byteAt l i)) := by
  obtain ⟨x, e1, e2, b0, b1⟩ := cs_at hl (place_lt h0 h1)
  have : byteAt l i = x := by simp [byteAt, e2]
  rw [this]; exact ⟨b0, b1, e2, e1⟩
theorem nb_bd {l : List Int} (hl : Good l) {i d : Int} (h0 : 0 ≤ i) (h1 : i < 40) (d0 : 0 ≤ d) (d1 : d < 16) : 0 ≤ nb l i d ∧ nb l i d ≤ 255 := by
  obtain ⟨b0, b1, _⟩ := byte_bd hl h0 h1
  unfold nb; split <;> omega
theorem wd_good {l : List Int} (hl : Good l) {i d : Int} (h0 : 0 ≤ i) (h1 : i < 40) (d0 : 0 ≤ d) (d1 : d < 16) : Good (wd l i d) := by
  refine ⟨by simp [wd, hl.1], fun n hn => ?_⟩
  rcases List.mem_or_eq_of_mem_set hn with h | h
  · exact hl.2 n h
  · rw [h]; exact nb_bd hl h0 h1 d0 d1
theorem wd_eq {l : List Int} (hl : Good l) {i d : Int} (h0 : 0 ≤ i) (h1 : i < 40) : wd l i d = l ↔ d = dg l i := by
  obtain ⟨b0, b1, e1, _⟩ := byte_bd hl h0 h1
  have hp := place_lt h0 h1
  have e2 : wd l i d = l ↔ nb l i d = byteAt l i := by
    constructor
    · intro h
      have h' : (wd l i d)[place i]? = l[place i]? := by rw [h]
      rw [e1, wd, List.getElem?_set_self (by rw [hl.1]; exact hp)] at h'
      simpa using h'
    · intro h
      apply List.ext_getElem?
      intro k
      by_cases hk : place i = k
      · subst hk
        rw [e1, wd, List.getElem?_set_self (by rw [hl.1]; exact hp), h]
      · rw [wd, List.getElem?_set_ne hk]
  rw [e2]
  unfold nb dg
  split <;> omega

theorem digit_any (l : List Int) (hl : Good l) (i : Int) (h0 : 0 ≤ i) (h1 : i < 40) (w : World) :
    Calls Try.prog 24 #[.agg (cs l).toArray, .int .i64 i] w fun e w' => e = .returned (.int .i64 (dg l i)) ∧ w.grownBy w' none := by
  obtain ⟨b0, b1, _, e1⟩ := byte_bd hl h0 h1
  by_cases hp : i * 4 % 8 = 0
  · have := digit_hi l i (byteAt l i) h0 h1 e1 b0 b1 hp w
    rwa [show byteAt l i / 16 = dg l i from (if_pos hp).symm] at this
  · have := digit_lo l i (byteAt l i) h0 h1 e1 b0 b1 (by omega) w
    rwa [show byteAt l i % 16 = dg l i from (if_neg hp).symm] at this

theorem cs_set (l : List Int) (k : Nat) (y : Int) : (cs l).set k (.int .u8 y) = cs (l.set k y) := by simp [cs, List.map_set]

theorem with_any (l : List Int) (hl : Good l) (i d : Int) (h0 : 0 ≤ i) (h1 : i < 40) (d0 : 0 ≤ d) (d1 : d < 16) (w : World) :
    Calls Try.prog 23 #[.agg (cs l).toArray, .int .i64 i, .int .i64 d] w fun e w' => e = .returned (.agg (cs (wd l i d)).toArray) ∧ w.grownBy w' none := by
  obtain ⟨b0, b1, _, e1⟩ := byte_bd hl h0 h1
  have hm := (wd_good hl h0 h1 d0 d1).1
  by_cases hp : i * 4 % 8 = 0
  · exact with_hi l (wd l i d) hm i (byteAt l i) d (nb l i d) h0 h1 e1 d0 d1 hp (by rw [hi_bits b0 b1 d0 d1]; exact (if_pos hp).symm) (cs_set l _ _) w
  · exact with_lo l (wd l i d) hm i (byteAt l i) d (nb l i d) h0 h1 e1 d0 d1 (by omega) (by rw [lo_bits b0 b1 d0 d1]; exact (if_neg hp).symm) (cs_set l _ _) w
end Go.Proofs.Qxb6613544a
