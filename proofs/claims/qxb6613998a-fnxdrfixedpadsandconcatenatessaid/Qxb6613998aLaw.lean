/-
  The walk of 'FnXdrFixedPadsAndConcatenates'.
-/
import Derived.Test.Qxb6613998aFixed
namespace Go.Proofs.Qxb6613998a
open Go.RowKit

theorem Rd.kept {w w' : World} {a : Option Addr} {len cap : Nat} {zs : List Int} (h : Rd w a len cap zs) (k : Kp (fun _ => False) w w') : Rd w' a len cap zs := by
  refine ⟨h.1, ?_⟩
  rcases h.2 with h | h | ⟨b, off, e, hc⟩
  · exact .inl h
  · exact .inr (.inl h)
  · exact .inr (.inr ⟨b, off, e, fun j hj => kept_cell k (hc j hj)⟩)

theorem padded_n {w : World} {ar aa : Option Addr} {cr ca N n : Nat} {rs bs : List Int} (hr : Row w ar cr rs) (ha : Row w aa ca bs) (hN : Hid (N = rs.length)) (hn : Hid (n = bs.length)) (e : Hid (rs = bs ++ List.replicate (pad bs.length) 0)) (h4 : N ≤ 1048576) :
    Calls Try.prog 11 #[.slice ar N cr, .slice aa n ca] w fun e w' => e = .returned (.bool true) ∧ Kp (fun _ => False) w w' := by
  have h1 := hN.out
  have h2 := hn.out
  subst h1 h2
  exact padded_any hr ha e.out (pad_mod _) (pad_lt _) h4

theorem same_n {w : World} {ar ax : Option Addr} {cr cx N n : Nat} {off : Int} {rs xs : List Int} (pre post : List Int) (hr : Row w ar cr rs) (hx : Row w ax cx xs) (hN : Hid (N = rs.length)) (hn : Hid (n = xs.length)) (ho : Hid (off = pre.length)) (e : Hid (rs = pre ++ xs ++ post)) (h4 : N ≤ 4194304) :
    Calls Try.prog 12 #[.slice ar N cr, .int .i64 off, .slice ax n cx] w fun e w' => e = .returned (.bool true) ∧ Kp (fun _ => False) w w' := by
  have h1 := hN.out
  have h2 := hn.out
  have h3 := ho.out
  subst h1 h2 h3
  exact same_any hr hx e.out h4

theorem enc_new {w : World} {a : Option Addr} {n cap : Nat} {zs : List Int} (hn : n = zs.length) (h : Row w a cap zs) :
    EncI (fun k => k = w.heap.size ∨ blk a = some k) (w.alloc (.cells #[.slice a n cap, .nilIface] 37)) (w.alloc (.cells #[.slice a n cap, .nilIface] 37)) w.heap.size zs := by
  subst hn
  exact ⟨a, cap, heap_alloc_new w _, h.kept ((Kp.refl (fun _ => False) w).alloc _) (by simp), Kp.refl _ _, fun k hk _ => .inr hk⟩

theorem EncI.kp {p : Nat → Prop} {w w' : World} {E : Nat} {zs : List Int} (h : EncI p w w' E zs) : Kp p w w' := by
  obtain ⟨_, _, _, _, k, _⟩ := h; exact k

theorem Row.kept2 {p : Nat → Prop} {w w' : World} {a : Option Addr} {cap : Nat} {zs : List Int} (h : Row w a cap zs) (k : Kp p w w') {lo hi : Nat} (hb : ∀ j, blk a = some j → lo ≤ j ∧ j < hi) (hp : ∀ j, lo ≤ j → j < hi → ¬ p j) : Row w' a cap zs :=
  h.kept k (fun j hj => hp j (hb j hj).1 (hb j hj).2)

set_option maxHeartbeats 2000000 in
theorem law_main (a0 a1 a2 : Option Addr) (c0 c1 c2 : Nat) (z0 z1 z2 : List Int) (w : World) (h0 : Rd w a0 z0.length c0 z0) (h1 : Rd w a1 z1.length c1 z1) (h2 : Rd w a2 z2.length c2 z2) (l0 : z0.length ≤ 262144) (l1 : z1.length ≤ 262144) (l2 : z2.length ≤ 262144) :
    Calls Try.prog 3 #[.slice a0 z0.length c0, .slice a1 z1.length c1, .slice a2 z2.length c2] w fun e w' => e = .returned (.bool true) ∧ Kp (fun _ => False) w w' := by
  go_enter Try.func3, Try.ntmps3
  go_wp2_with fail
  refine (size_any _ _ _ _ _ _ _ _ _ _).mono ?_
  rintro e w' ⟨⟨bb, rfl⟩, hww⟩
  subst hww
  cases bb
  · go_wp2
    go_ret
    exact ⟨rfl, Kp.refl _ _⟩
  go_wp2_with fail
  refine (clone_any a0 _ c0 z0 (by omega) _ h0).mono ?_
  rintro e w1 ⟨x0, k0, rfl, r0, kp1, b0⟩
  have h1' := h1.kept kp1
  go_wp2_with fail
  refine (clone_any a1 _ c1 z1 (by omega) _ h1').mono ?_
  rintro e w2 ⟨x1, k1, rfl, r1, kp2, b1⟩
  have h2' := (h2.kept kp1).kept kp2
  go_wp2_with fail
  refine (clone_any a2 _ c2 z2 (by omega) _ h2').mono ?_
  rintro e w3 ⟨x2, k2, rfl, r2, kp3, b2⟩
  clear h0 h1 h2 h1' h2'
  have r0 := (r0.kept kp2 (by simp)).kept kp3 (by simp)
  go_wp2_with fail
  refine (clone_any x0 _ k0 z0 (by omega) _ r0.rd).mono ?_
  rintro e w4 ⟨y0, m0, rfl, s0, kp4, d0⟩
  have r1 := ((r1.kept kp3 (by simp)).kept kp4 (by simp))
  go_wp2_with fail
  refine (clone_any x1 _ k1 z1 (by omega) _ r1.rd).mono ?_
  rintro e w5 ⟨y1, m1, rfl, s1, kp5, d1⟩
  have r2 := ((r2.kept kp4 (by simp)).kept kp5 (by simp))
  go_wp2_with fail
  refine (clone_any x2 _ k2 z2 (by omega) _ r2.rd).mono ?_
  rintro e w6 ⟨y2, m2, rfl, s2, kp6, d2⟩
  have r0 := ((r0.kept kp4 (by simp)).kept kp5 (by simp)).kept kp6 (by simp)
  have r1 := (r1.kept kp5 (by simp)).kept kp6 (by simp)
  have r2 := r2.kept kp6 (by simp)
  have s0 := (s0.kept kp5 (by simp)).kept kp6 (by simp)
  have s1 := s1.kept kp6 (by simp)
  have q1 := kp1.size
  have q2 := kp2.size
  have q3 := kp3.size
  have q4 := kp4.size
  have q5 := kp5.size
  have q6 := kp6.size
  have kpA : Kp (fun _ => False) w' w6 := ((((kp1.trans kp2 (fun _ _ h => h)).trans kp3 (fun _ _ h => h)).trans kp4 (fun _ _ h => h)).trans kp5 (fun _ _ h => h)).trans kp6 (fun _ _ h => h)
  clear kp1 kp2 kp3 kp4 kp5 kp6
  obtain ⟨A, hA⟩ : ∃ A, A = z1 ++ List.replicate (pad z1.length) (0 : Int) := ⟨_, rfl⟩
  obtain ⟨B, hB⟩ : ∃ B, B = z2 ++ List.replicate (pad z2.length) (0 : Int) := ⟨_, rfl⟩
  have lA : A.length ≤ 262148 := by have := pad_lt z1.length; rw [hA]; simp; omega
  have lB : B.length ≤ 262148 := by have := pad_lt z2.length; rw [hB]; simp; omega
  have HA : Hid (A = z1 ++ List.replicate (pad z1.length) (0 : Int)) := hA
  have HB : Hid (B = z2 ++ List.replicate (pad z2.length) (0 : Int)) := hB
  clear hA hB
  -- the encoder e
  go_wp2_with fail
  refine (new_any _ _ _ _).mono ?_
  rintro e w7 ⟨rfl, hw7⟩
  have hs7 : EncI (fun k => k = w6.heap.size ∨ blk x0 = some k) w7 w7 w6.heap.size z0 := by rw [hw7]; exact enc_new rfl r0
  have kp7 : Kp (fun _ => False) w6 w7 := by rw [hw7]; exact (Kp.refl _ w6).alloc _
  have q7 := kp7.size
  have r1b := r1.kept kp7 (by simp)
  have r2b := r2.kept kp7 (by simp)
  have s0 := s0.kept kp7 (by simp)
  have s1 := s1.kept kp7 (by simp)
  have s2 := s2.kept kp7 (by simp)
  have kpB := kpA.trans kp7 (fun _ _ h => h)
  clear hw7 kpA kp7
  go_wp2_with fail
  refine (zfixed_any hs7 (.inl rfl) rfl r1b (by omega) (by omega)).mono ?_
  rintro e w8 ⟨rfl, hs8⟩
  rw [← HA.out] at hs8
  have n1 : ∀ j, w1.heap.size ≤ j → j < w6.heap.size → ¬ (j = w6.heap.size ∨ blk x0 = some j) := by
    intro j h1 h2 h3
    rcases h3 with e | e
    · omega
    · have := b0 j e; omega
  have r2c := r2b.kept2 hs8.kp b2 (fun j _ _ => n1 j (by omega) (by omega))
  go_wp2_with fail
  refine (zfixed_any hs8 (.inl rfl) rfl r2c (by simp; omega) (by omega)).mono ?_
  rintro e w9 ⟨rfl, hs9⟩
  rw [← HB.out] at hs9
  have kpC : Kp (fun _ => False) w' w9 := kpB.trans hs9.kp (fun j hj e => by
    rcases e with e | e
    · omega
    · have := b0 j e; omega)
  have r1 := r1b.kept2 hs9.kp b1 (fun j _ _ => n1 j (by omega) (by omega))
  have r2 := r2b.kept2 hs9.kp b2 (fun j _ _ => n1 j (by omega) (by omega))
  have s0 := s0.kept2 hs9.kp d0 (fun j _ _ => n1 j (by omega) (by omega))
  have s1 := s1.kept2 hs9.kp d1 (fun j _ _ => n1 j (by omega) (by omega))
  have s2 := s2.kept2 hs9.kp d2 (fun j _ _ => n1 j (by omega) (by omega))
  have q9 := kpC.size
  obtain ⟨aw, cw, bw, rww, _, _⟩ := hs9
  obtain ⟨NW, hNW⟩ : ∃ N, N = (z0 ++ A ++ B).length := ⟨_, rfl⟩
  rw [← hNW] at bw
  have u1 : NW ≤ z0.length + A.length + B.length := by rw [hNW]; simp; omega
  have u2 : z0.length + A.length + B.length ≤ NW := by rw [hNW]; simp; omega
  have HNW : Hid (NW = (z0 ++ A ++ B).length) := hNW
  have qE := bw.lt
  clear hNW hs7 hs8 r1b r2b r2c kpB n1 b0 b1 b2 d0 d1 d2
  go_wp2_with fail
  refine (buf_any bw).mono ?_
  rintro e wx ⟨rfl, hx⟩
  have hx := hx.symm
  subst hx
  -- the encoder ea
  go_wp2_with fail
  refine (new_any _ _ _ _).mono ?_
  rintro e w10 ⟨rfl, hw10⟩
  have hs10 : EncI (fun k => k = w9.heap.size ∨ blk none = some k) w10 w10 w9.heap.size [] := by rw [hw10]; exact enc_new rfl (row_nil w9)
  have kp10 : Kp (fun _ => False) w9 w10 := by rw [hw10]; exact (Kp.refl _ w9).alloc _
  have r1b := r1.kept kp10 (by simp)
  clear hw10
  go_wp2_with fail
  refine (zfixed_any hs10 (.inl rfl) rfl r1b (by simp) (by omega)).mono ?_
  rintro e w11 ⟨rfl, hs11⟩
  rw [List.nil_append, ← HA.out] at hs11
  have kp11 : Kp (fun k => k = w9.heap.size) w9 w11 := (kp10.mono (fun _ _ h => h.elim)).trans hs11.kp (fun j hj e => e.elim id (fun e => by cases e))
  have kpD : Kp (fun _ => False) w' w11 := kpC.trans kp11 (fun j hj e => by omega)
  have r2 := r2.kept kp11 (fun j hj e => by have := r2.lt hj; omega)
  have s0 := s0.kept kp11 (fun j hj e => by have := s0.lt hj; omega)
  have s1 := s1.kept kp11 (fun j hj e => by have := s1.lt hj; omega)
  have s2 := s2.kept kp11 (fun j hj e => by have := s2.lt hj; omega)
  have rww := rww.kept kp11 (fun j hj e => by have := rww.lt hj; omega)
  have bw := bw.kept kp11 (by omega)
  have q11 := kp11.size
  obtain ⟨ar, cr, br, rr, _, _⟩ := hs11
  clear hs10 kp10 r1b r1 kp11 kpC
  go_wp2_with fail
  refine (buf_any br).mono ?_
  rintro e wx ⟨rfl, hx⟩
  have hx := hx.symm
  subst hx
  -- the encoder eb
  go_wp2_with fail
  refine (new_any _ _ _ _).mono ?_
  rintro e w12 ⟨rfl, hw12⟩
  have hs12 : EncI (fun k => k = w11.heap.size ∨ blk none = some k) w12 w12 w11.heap.size [] := by rw [hw12]; exact enc_new rfl (row_nil w11)
  have kp12 : Kp (fun _ => False) w11 w12 := by rw [hw12]; exact (Kp.refl _ w11).alloc _
  have r2b := r2.kept kp12 (by simp)
  clear hw12
  go_wp2_with fail
  refine (zfixed_any hs12 (.inl rfl) rfl r2b (by simp) (by omega)).mono ?_
  rintro e w13 ⟨rfl, hs13⟩
  rw [List.nil_append, ← HB.out] at hs13
  have kp13 : Kp (fun k => k = w11.heap.size) w11 w13 := (kp12.mono (fun _ _ h => h.elim)).trans hs13.kp (fun j hj e => e.elim id (fun e => by cases e))
  have kpE : Kp (fun _ => False) w' w13 := kpD.trans kp13 (fun j hj e => by omega)
  have s0 := s0.kept kp13 (fun j hj e => by have := s0.lt hj; omega)
  have s1 := s1.kept kp13 (fun j hj e => by have := s1.lt hj; omega)
  have s2 := s2.kept kp13 (fun j hj e => by have := s2.lt hj; omega)
  have rww := rww.kept kp13 (fun j hj e => by have := rww.lt hj; omega)
  have rr := rr.kept kp13 (fun j hj e => by have := rr.lt hj; omega)
  have bw := bw.kept kp13 (by omega)
  obtain ⟨ab, cb, bb, rb, _, _⟩ := hs13
  clear hs12 kp12 r2b r2 kp13 kpD br
  go_wp2_with fail
  refine (buf_any bb).mono ?_
  rintro e wx ⟨rfl, hx⟩
  have hx := hx.symm
  subst hx
  clear bb
  -- the tests
  go_wp2_with fail
  refine (padded_n rr s1 rfl rfl HA (by omega)).mono ?_
  rintro e w14 ⟨rfl, kp14⟩
  have s0 := s0.kept kp14 (by simp)
  have s2 := s2.kept kp14 (by simp)
  have rww := rww.kept kp14 (by simp)
  have rr := rr.kept kp14 (by simp)
  have rb := rb.kept kp14 (by simp)
  have bw := bw.kept kp14 (by simp)
  have kpF := kpE.trans kp14 (fun _ _ h => h)
  clear kp14 kpE s1
  go_wp2_with fail
  refine (padded_n rb s2 rfl rfl HB (by omega)).mono ?_
  rintro e w15 ⟨rfl, kp15⟩
  have s0 := s0.kept kp15 (by simp)
  have rww := rww.kept kp15 (by simp)
  have rr := rr.kept kp15 (by simp)
  have rb := rb.kept kp15 (by simp)
  have bw := bw.kept kp15 (by simp)
  have kpG := kpF.trans kp15 (fun _ _ h => h)
  clear kp15 kpF s2
  go_wp2_with fail
  refine (same_n [] (A ++ B) rww s0 HNW rfl rfl (by unfold Hid; simp) (by omega)).mono ?_
  rintro e w16 ⟨rfl, kp16⟩
  have rww := rww.kept kp16 (by simp)
  have rr := rr.kept kp16 (by simp)
  have rb := rb.kept kp16 (by simp)
  have bw := bw.kept kp16 (by simp)
  have kpH := kpG.trans kp16 (fun _ _ h => h)
  clear kp16 kpG s0
  go_wp2_with fail
  refine (same_n z0 B rww rr HNW rfl rfl rfl (by omega)).mono ?_
  rintro e w17 ⟨rfl, kp17⟩
  have rww := rww.kept kp17 (by simp)
  have rb := rb.kept kp17 (by simp)
  have bw := bw.kept kp17 (by simp)
  have kpI := kpH.trans kp17 (fun _ _ h => h)
  clear kp17 kpH rr
  go_wp2_with fail
  refine (same_n (z0 ++ A) [] rww rb HNW rfl (by unfold Hid; simp) (by unfold Hid; simp) (by omega)).mono ?_
  rintro e w18 ⟨rfl, kp18⟩
  have bw := bw.kept kp18 (by simp)
  have kpJ := kpI.trans kp18 (fun _ _ h => h)
  clear kp18 kpI rww rb
  go_wp2_with fail
  refine (err_any bw).mono ?_
  rintro e wx ⟨rfl, hx⟩
  have hx := hx.symm
  subst hx
  go_wp2
  go_ret
  exact ⟨rfl, kpJ⟩
end Go.Proofs.Qxb6613998a
