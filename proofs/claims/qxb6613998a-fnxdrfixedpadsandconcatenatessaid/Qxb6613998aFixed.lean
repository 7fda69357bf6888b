/-
  The contract of 'fixed': it appends the bytes and the zeros that pad them.
-/
import Derived.Test.Qxb6613998aEnc
namespace Go.Proofs.Qxb6613998a
open Go.RowKit

theorem row_of_own {w : World} {v : Value} {n : Nat} {zs : List Int} (h : w.ownsRow 0 5 1 v n (zs.map (Value.int .u8))) : ∃ a c, v = .slice a zs.length c ∧ Row w a c zs ∧ v.ownBlock = blk a := by
  have hn : n = zs.length := by have := h.1; simp at this; omega
  subst hn
  rcases h.2 with ⟨rfl, h0⟩ | ⟨g, c, cur, rfl, _⟩
  · have e : zs = [] := List.eq_nil_of_length_eq_zero h0
    subst e
    exact ⟨none, 0, rfl, h, rfl⟩
  · exact ⟨some ⟨g, 0, none⟩, c, rfl, h, rfl⟩

/-- 'append' onto a row of bytes, the shape of what comes back written out. -/
theorem wpList_append_row {w : World} {ops : Array Oper} {rest : List Oper} {o : Oper} {act : Act} {Q : Exit → Act → World → Prop} (hgd : o.guard = none) (s x : Operand)
    (ho : o.op = .call { callee := .builtin .append, args := #[s, x], argTypes := #[22, 22] }) (a : Option Addr) (N cap : Nat) (zs : List Int) (hN : Hid (N = zs.length)) (hs : act.eval s = .slice a N cap) (hrow : Row w a cap zs)
    (ad : Addr) (m c : Nat) (bs : List Int) (hx : act.eval x = .slice (some ad) m c) (hm : m = bs.length) (hnews : ∀ j u, (bs.map (Value.int .u8))[j]? = some u → w.cell? (ad.add j) = some u) (hb : zs.length + bs.length ≤ 4194304)
    (h : ∀ a' N' c' w', Hid (N' = (zs ++ bs).length) → Row w' a' c' (zs ++ bs) → w.grownBy w' (blk a) → (blk a' = blk a ∨ blk a' = some w.heap.size) → wpList Try.prog ops Q rest (act.put o.dst (.slice a' N' c')) w') :
    wpList Try.prog ops Q (o :: rest) act w := by
  obtain ⟨i0, hi, hz0, hz1, hz2⟩ := info_parts info5
  have hN' := hN.out
  subst hN' hm
  refine wpList_append_own_at w hgd s x 22 ho 0 5 i0 (.int .u8 0) 1 1 Try.underlying22 hi hz0 hz1 hz2 rfl (by decide) (.slice a zs.length cap) zs.length (zs.map (Value.int .u8)) hs hrow ad bs.length c (bs.map (Value.int .u8)) hx (by simp) hnews (ints_oneCell .u8 bs) (by unfold maxLen; omega) (by omega) (Nat.zero_le _) ?_
  intro v' w' hown hg _ hloc
  rw [← List.map_append] at hown
  obtain ⟨a', c', rfl, hr, hbk⟩ := row_of_own hown
  rw [hbk] at hloc
  have hb2 : (Value.slice a zs.length cap).ownBlock = blk a := by cases a <;> rfl
  rw [hb2] at hg hloc
  exact h a' _ c' w' rfl hr hg hloc

/-- Behind the append and the store. -/
theorem enc_step {p : Nat → Prop} {w0 w w1 : World} {E : Nat} {a a1 : Option Addr} {N cap N1 c1 : Nat} {zs ys : List Int} (hpE : p E) (hbox : Box w E a N cap) (hrow : Row w a cap zs) (hkp : Kp p w0 w) (hloc : ∀ k, blk a = some k → k < w0.heap.size → p k)
    (hN1 : Hid (N1 = ys.length)) (hr1 : Row w1 a1 c1 ys) (hg : w.grownBy w1 (blk a)) (hl : blk a1 = blk a ∨ ∃ k, blk a1 = some k ∧ w.heap.size ≤ k) :
    (w1.cell? ⟨E, 0, none⟩ = some (.slice a N cap) ∧ w1.frozen? ⟨E, 0, none⟩ = false) ∧ EncI p w0 (w1.setCell ⟨E, 0, none⟩ (.slice a1 N1 c1)) E ys := by
  have hap := hbox.apart hrow
  have hb1 : Box w1 E a N cap := by
    unfold Box
    rw [hg.block E hbox.lt (fun e => hap e.symm)]
    exact hbox
  have hk1 : Kp p w0 w1 := hkp.trans (q := fun k => blk a = some k) (Kp.of hg (fun k _ e => e)) (fun j hj e => hloc j e hj)
  refine ⟨⟨hb1.cell0, hb1.free⟩, a1, c1, ?_, ?_, hk1.setCell _ _ (fun _ => hpE), ?_⟩
  · have := hN1.out
    subst this
    exact hb1.set
  · exact hr1.kept (p := fun k => k = E) ⟨rfl, rfl, rfl, by simp [World.setCell], fun k _ hk => heap_setCell_other w1 ⟨E, 0, none⟩ k _ hk⟩ (fun j hj e => hb1.apart hr1 (by rw [hj, e]))
  · intro k hk hlt
    rcases hl with e | ⟨k', e, hle⟩
    · exact hloc k (by rw [← e]; exact hk) hlt
    · rw [e] at hk
      injection hk with hk
      have := hkp.size
      omega

set_option maxHeartbeats 1000000 in
theorem fixed_some {p : Nat → Prop} {w0 w : World} {E : Nat} {zs : List Int} (h : EncI p w0 w E zs) (hpE : p E) (gb cb m : Nat) (bs : List Int) (hm : Hid (m = bs.length)) (hb : Row w (some ⟨gb, 0, none⟩) cb bs) (h1 : zs.length ≤ 1048576) (h2 : m ≤ 524288) :
    Calls Try.prog 16 #[.pointer (some ⟨E, 0, none⟩), .slice (some ⟨gb, 0, none⟩) m cb] w fun e w' => e = .returned (.tuple #[]) ∧ EncI p w0 w' E (zs ++ bs ++ List.replicate (pad m) 0) := by
  obtain ⟨a, cap, hbox, hrow, hkp, hloc⟩ := h
  obtain ⟨N, hN⟩ : ∃ N, N = zs.length := ⟨_, rfl⟩
  rw [← hN] at hbox
  have HN : Hid (N = zs.length) := hN
  clear hN
  have c0 := hbox.cell0
  have hnews : ∀ j u, (bs.map (Value.int .u8))[j]? = some u → w.cell? ((⟨gb, 0, none⟩ : Addr).add j) = some u := World.ownsRow.cells hb (g := gb) rfl
  go_enter Try.func16, Try.ntmps16
  go_wp2_with (first
    | (at_builtin; refine wpList_append_row rfl (.tmp 8) (.tmp 9) rfl a N cap zs HN rfl hrow ⟨gb, 0, none⟩ m cb bs rfl hm.out hnews (by have := hm.out; omega) ?_; intro a1 N1 c1 w1 hN1 hr1 hg1 hl1; obtain ⟨⟨q1, q2⟩, q3⟩ := enc_step hpE hbox hrow hkp hloc hN1 hr1 hg1 (hl1.imp id (fun e => ⟨_, e, Nat.le_refl _⟩)))
    | (go_at_call 18; refine (pad_any m (by omega) _).mono ?_; rintro e w' ⟨rfl, rfl⟩))
  clear q1 q2 hN1 hr1 hg1 hl1 c0 hnews hb hbox hrow hkp hloc
  go_loopw [16] (fun i wr => ∃ k : Nat, k ≤ pad m ∧ i = .int .i64 k ∧ EncI p w0 wr E (zs ++ bs ++ List.replicate k 0)) (fun i _ => pad m - (intOf i).toNat)
  case atStart => exact ⟨0, Nat.zero_le _, rfl, by simpa using q3⟩
  case round =>
    obtain ⟨k, hk, rfl, hs⟩ := hrel
    clear q3
    have hp4 := pad_lt m
    by_cases hlt : k < pad m
    · have hlen : (zs ++ bs ++ List.replicate k 0).length ≤ 1048576 + 524288 + 4 := by have := hm.out; simp; omega
      have e1 : zs ++ bs ++ List.replicate k (0 : Int) ++ [0] = zs ++ bs ++ List.replicate (k + 1) 0 := by rw [List.replicate_succ', List.append_assoc (zs ++ bs)]
      obtain ⟨ys, hys⟩ : ∃ ys, ys = zs ++ bs ++ List.replicate k (0 : Int) := ⟨_, rfl⟩
      rw [← hys] at hs hlen e1
      have HE : Hid (ys ++ [0] = zs ++ bs ++ List.replicate (k + 1) 0) := e1
      clear e1 hys
      obtain ⟨a, cap, hbox, hrow, hkp, hloc⟩ := hs
      obtain ⟨N, hN⟩ : ∃ N, N = ys.length := ⟨_, rfl⟩
      rw [← hN] at hbox
      have HN : Hid (N = ys.length) := hN
      clear hN
      have c0 := hbox.cell0
      have hrow' : Row (wr.alloc (.cells #[.int .u8 0] 5)) a cap ys := hrow.kept ((Kp.refl (fun _ => False) wr).alloc _) (by simp)
      have hbox' : Box (wr.alloc (.cells #[.int .u8 0] 5)) E a N cap := hbox.kept ((Kp.refl (fun _ => False) wr).alloc _) (by simp)
      have hkp' : Kp p w0 (wr.alloc (.cells #[.int .u8 0] 5)) := hkp.alloc _
      clear hbox hrow hkp
      go_wp2_with (at_builtin; refine wpList_append_row rfl (.tmp 22) (.tmp 23) rfl a N cap ys HN rfl hrow' ⟨wr.heap.size, 0, none⟩ 1 1 [0] rfl rfl (cell_one_new _ _ _) (by simp; omega) ?_; intro a1 N1 c1 w1 hN1 hr1 hg1 hl1; obtain ⟨⟨q1, q2⟩, q3⟩ := enc_step hpE hbox' hrow' hkp' hloc hN1 hr1 hg1 (hl1.imp id (fun e => ⟨_, e, Nat.le_refl _⟩)))
      rw [HE.out] at q3
      go_roundw
      case rel => exact ⟨k + 1, by omega, by go_num, q3⟩
      case measure => simp [intOf]; omega
    · have hkp : k = pad m := by omega
      rw [hkp] at hs
      clear hkp
      go_wp2
      go_end0
      exact ⟨rfl, hs⟩

set_option maxHeartbeats 1000000 in
theorem fixed_none {p : Nat → Prop} {w0 w : World} {E : Nat} {zs : List Int} (h : EncI p w0 w E zs) (hpE : p E) :
    Calls Try.prog 16 #[.pointer (some ⟨E, 0, none⟩), .slice none 0 0] w fun e w' => e = .returned (.tuple #[]) ∧ EncI p w0 w' E zs := by
  obtain ⟨a, cap, hbox, hrow, hkp, hloc⟩ := h
  obtain ⟨i0, hi, hz0, hz1, hz2⟩ := info_parts info5
  obtain ⟨N, hN⟩ : ∃ N, N = zs.length := ⟨_, rfl⟩
  have hown : w.ownsRow 0 5 1 (.slice a N cap) zs.length (zs.map (Value.int .u8)) := by rw [hN]; exact hrow
  rw [← hN] at hbox
  have HN : Hid (N = zs.length) := hN
  clear hN
  obtain ⟨⟨q1, q2⟩, q3⟩ := enc_step hpE hbox hrow hkp hloc HN hrow (World.grownBy.refl _ _) (.inl rfl)
  clear hbox hrow hkp hloc
  go_enter Try.func16, Try.ntmps16
  go_wp2_with (first
    | (at_builtin; refine wpList_append_own_none rfl (.tmp 8) (.tmp 9) 22 rfl 0 5 i0 1 Try.underlying22 hi (.slice a N cap) zs.length (zs.map (Value.int .u8)) rfl hown rfl ?_)
    | (go_at_call 18; refine (pad_any 0 (by omega) _).mono ?_; rintro e w' ⟨rfl, rfl⟩))
  have hp0 : pad 0 = 0 := rfl
  clear q1 q2 hown HN
  go_loopw [16] (fun i wr => i = .int .i64 0 ∧ EncI p w0 wr E zs) (fun _ _ => 0)
  case atStart => exact ⟨rfl, q3⟩
  case round =>
    obtain ⟨rfl, hs⟩ := hrel
    clear q3
    go_wp2
    go_end0
    exact ⟨rfl, hs⟩

theorem fixed_any {p : Nat → Prop} {w0 w : World} {E : Nat} {zs : List Int} (h : EncI p w0 w E zs) (hpE : p E) {ab : Option Addr} {cb : Nat} {bs : List Int} (hb : Row w ab cb bs) (h1 : zs.length ≤ 1048576) (h2 : bs.length ≤ 524288) :
    Calls Try.prog 16 #[.pointer (some ⟨E, 0, none⟩), .slice ab bs.length cb] w fun e w' => e = .returned (.tuple #[]) ∧ EncI p w0 w' E (zs ++ (bs ++ List.replicate (pad bs.length) 0)) := by
  rcases hb.shape with ⟨rfl, rfl, rfl⟩ | ⟨gb, rfl⟩
  · have := fixed_none h hpE
    simpa [pad] using this
  · have := fixed_some h hpE gb cb bs.length bs rfl hb h1 h2
    rwa [List.append_assoc] at this

set_option maxHeartbeats 400000 in
theorem zfixed_any {p : Nat → Prop} {w0 w : World} {E : Nat} {zs : List Int} (h : EncI p w0 w E zs) (hpE : p E) {ab : Option Addr} {n cb : Nat} {bs : List Int} (hn : Hid (n = bs.length)) (hb : Row w ab cb bs) (h1 : zs.length ≤ 1048576) (h2 : n ≤ 524288) :
    Calls Try.prog 9 #[.pointer (some ⟨E, 0, none⟩), .slice ab n cb] w fun e w' => e = .returned (.tuple #[]) ∧ EncI p w0 w' E (zs ++ (bs ++ List.replicate (pad bs.length) 0)) := by
  have hf : Calls Try.prog 16 #[.pointer (some ⟨E, 0, none⟩), .slice ab n cb] w fun e w' => e = .returned (.tuple #[]) ∧ EncI p w0 w' E (zs ++ (bs ++ List.replicate (pad bs.length) 0)) := by
    have := hn.out
    subst this
    exact fixed_any h hpE hb h1 h2
  have HF : Hid (Calls Try.prog 16 #[.pointer (some ⟨E, 0, none⟩), .slice ab n cb] w fun e w' => e = .returned (.tuple #[]) ∧ EncI p w0 w' E (zs ++ (bs ++ List.replicate (pad bs.length) 0))) := hf
  clear hf h hb
  go_enter Try.func9, Try.ntmps9
  go_wp2_with fail
  refine HF.out.mono ?_
  rintro e w' ⟨rfl, hs⟩
  go_wp2
  go_end0
  exact ⟨rfl, hs⟩
end Go.Proofs.Qxb6613998a
