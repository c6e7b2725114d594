/- A part of the proof. -/
import Derived.Test.YtjannccgfmclhaaGreatDoorGIn
namespace Go.Proofs.YtjannccgfmclhaaGreatDoor
open Go.RowKit

theorem ZzKeys_hands {w : World} {S : Nat → Prop} {o : Out} {v : Value} (hs : o ≠ .silent) (h : Calls Tryz.prog 28 #[v] w (GIn S w o)) : Calls Tryz.prog 18 #[v] w (GIn S w o) := by
  have H := Lib.hid h
  clear h
  go_enter Tryz.func18, Tryz.ntmps18
  go_wp2_with fail
  refine H.out.mono ?_
  intro e w' h
  clear H
  cases o with
  | silent => exact absurd rfl hs
  | raises =>
    obtain ⟨p, rfl, hb⟩ := h
    go_wp2_with fail
    go_ret
    exact ⟨p, rfl, hb⟩
  | value j1 =>
    obtain ⟨v1, rfl, hG, hb⟩ := h
    go_wp2_with fail
    go_ret
    exact ⟨v1, rfl, hG, hb⟩

theorem ZzLength_hands {w : World} {S : Nat → Prop} {o : Out} {v : Value} (hs : o ≠ .silent) (h : Calls Tryz.prog 30 #[v] w (GIn S w o)) : Calls Tryz.prog 20 #[v] w (GIn S w o) := by
  have H := Lib.hid h
  clear h
  go_enter Tryz.func20, Tryz.ntmps20
  go_wp2_with fail
  refine H.out.mono ?_
  intro e w' h
  clear H
  cases o with
  | silent => exact absurd rfl hs
  | raises =>
    obtain ⟨p, rfl, hb⟩ := h
    go_wp2_with fail
    go_ret
    exact ⟨p, rfl, hb⟩
  | value j1 =>
    obtain ⟨v1, rfl, hG, hb⟩ := h
    go_wp2_with fail
    go_ret
    exact ⟨v1, rfl, hG, hb⟩

theorem ZzIndex_hands {w : World} {S : Nat → Prop} {o : Out} {v x : Value} (hs : o ≠ .silent) (h : Calls Tryz.prog 32 #[.nilIface, v, x] w (GIn S w o)) : Calls Tryz.prog 22 #[v, x] w (GIn S w o) := by
  have H := Lib.hid h
  clear h
  go_enter Tryz.func22, Tryz.ntmps22
  go_wp2_with fail
  refine H.out.mono ?_
  intro e w' h
  clear H
  cases o with
  | silent => exact absurd rfl hs
  | raises =>
    obtain ⟨p, rfl, hb⟩ := h
    go_wp2_with fail
    go_ret
    exact ⟨p, rfl, hb⟩
  | value j1 =>
    obtain ⟨v1, rfl, hG, hb⟩ := h
    go_wp2_with fail
    go_ret
    exact ⟨v1, rfl, hG, hb⟩

set_option maxRecDepth 100000 in
theorem IKeys_any (j : J) (o : Out) (a : VC) (w : World) (S : Nat → Prop) (hj : JOK j) (ha : VR w S j a) (hS : ∀ b, S b → b < w.heap.size) (hs : o ≠ .silent) (hok : ∀ j', o = .value j' → JW j')
    (hZ : ∀ (v : Value) (w1 : World) (S1 : Nat → Prop), JR w1 S1 j v → (∀ b, S1 b → b < w1.heap.size) → Calls Tryz.prog 18 #[v] w1 (GIn S1 w1 o)) :
    Calls Tryz.prog 7 #[a.val] w (DoorOut w o) := by
  have HA := Lib.hid ha; have HS := Lib.hid hS; have HN := Lib.hid hs; have HJ := Lib.hid hj; have HO := Lib.hid hok; have HZ := Lib.hid hZ
  clear ha hS hs hj hok hZ
  obtain ⟨k0, h0, s0, la, ll, lc, ka, kl, kc, va, vl, vc⟩ := a
  have R0 := Lib.hid (resbox_alloc (w.alloc (.cells (VC.arr ⟨k0, h0, s0, la, ll, lc, ka, kl, kc, va, vl, vc⟩) 26)) VC.nil 0)
  have W3 : Hid (Below w.heap.size w ((w.alloc (.cells (VC.arr ⟨k0, h0, s0, la, ll, lc, ka, kl, kc, va, vl, vc⟩) 26)).alloc (.cells #[.int .i64 0, .int .i64 0, .string ByteArray.empty, .slice none 0 0, .slice none 0 0, .slice none 0 0, .int .i64 0] 30))) :=
    Lib.hid (((Below.refl _ _).alloc (Nat.le_refl _) _).alloc (by simp) _)
  have T1 := Lib.hid fun hn => toGo_any (SizeOf.sizeOf j) j _ _ S (Nat.le_refl _) HJ.out (HA.out.go (fun b hb => W3.out.block b (HS.out b hb)) (fun _ h => h)) hn
  unfold VC.val VC.arr at *
  unfold VC.nil at R0
  go_enter Tryz.func7, Tryz.ntmps7
  go_wp2_with fail
  refine (T1.out ?_).mono ?_
  · intro b hb; exact Nat.lt_of_lt_of_le (HS.out b hb) W3.out.size
  rintro e w1 ⟨v1, rfl, hG1, hb1⟩
  have HB1 := Lib.hid hb1
  have W4 := Lib.hid (W3.out.trans (hb1.mono W3.out.size))
  have Z := Lib.hid (HZ.out v1 w1 _ (GR.jr _ (Nat.le_refl _) hG1) (fun b hb => hb.2))
  clear hb1 hG1
  go_wp2_with fail
  refine Z.out.mono ?_
  intro e w3 hz
  obtain ⟨v3, rfl, hb3, hc⟩ := result_in HO.out HN.out hz (fun b hb => hb.2)
  have W6 := Lib.hid (W4.out.trans (hb3.mono W4.out.size))
  have HB3 := Lib.hid hb3
  have HC2 := Lib.hid hc
  clear hz hb3 hc
  go_wp2_with fail
  refine HC2.out.mono ?_
  rintro e w4 ⟨c, rfl, hV, hb4⟩
  have W7 := Lib.hid (W6.out.trans (hb4.mono W6.out.size))
  have r0 := R0.out.below ((HB1.out.trans (HB3.out.mono HB1.out.size)).trans (hb4.mono (Nat.le_trans HB1.out.size HB3.out.size))) (by simp)
  simp only [World.size_alloc] at r0
  have q0 := r0.c0; have q1 := r0.c1; have q2 := r0.c2; have q3 := r0.c3; have q4 := r0.c4; have q5 := r0.c5; have q6 := r0.c6; have qf := r0.fr; have lt := r0.lt
  have HV := Lib.hid hV
  obtain ⟨k9, h9, s9, la9, ll9, lc9, ka9, kl9, kc9, va9, vl9, vc9⟩ := c
  unfold resVal
  clear r0 hV hb4
  go_wp2_with fail
  refine bodyPost_ret (v := .agg #[.int .i64 k9, .int .i64 h9, .string s9, .slice la9 ll9 lc9, .slice ka9 kl9 kc9, .slice va9 vl9 vc9, .int .i64 o.how]) (by simp [results, Tryz.results7, go_sem, q0, q1, q2, q3, q4, q5, q6]) rfl ?_
  have hsz : w.heap.size + 2 ≤ w3.heap.size := Nat.le_trans HB1.out.size HB3.out.size |> Nat.le_trans (by simp)
  exact door_out (N := w.heap.size + 1) HN.out W7.out (by omega) (by omega) HV.out

set_option maxRecDepth 100000 in
theorem ILength_any (j : J) (o : Out) (a : VC) (w : World) (S : Nat → Prop) (hj : JOK j) (ha : VR w S j a) (hS : ∀ b, S b → b < w.heap.size) (hs : o ≠ .silent) (hok : ∀ j', o = .value j' → JW j')
    (hZ : ∀ (v : Value) (w1 : World) (S1 : Nat → Prop), JR w1 S1 j v → (∀ b, S1 b → b < w1.heap.size) → Calls Tryz.prog 20 #[v] w1 (GIn S1 w1 o)) :
    Calls Tryz.prog 9 #[a.val] w (DoorOut w o) := by
  have HA := Lib.hid ha; have HS := Lib.hid hS; have HN := Lib.hid hs; have HJ := Lib.hid hj; have HO := Lib.hid hok; have HZ := Lib.hid hZ
  clear ha hS hs hj hok hZ
  obtain ⟨k0, h0, s0, la, ll, lc, ka, kl, kc, va, vl, vc⟩ := a
  have R0 := Lib.hid (resbox_alloc (w.alloc (.cells (VC.arr ⟨k0, h0, s0, la, ll, lc, ka, kl, kc, va, vl, vc⟩) 26)) VC.nil 0)
  have W3 : Hid (Below w.heap.size w ((w.alloc (.cells (VC.arr ⟨k0, h0, s0, la, ll, lc, ka, kl, kc, va, vl, vc⟩) 26)).alloc (.cells #[.int .i64 0, .int .i64 0, .string ByteArray.empty, .slice none 0 0, .slice none 0 0, .slice none 0 0, .int .i64 0] 30))) :=
    Lib.hid (((Below.refl _ _).alloc (Nat.le_refl _) _).alloc (by simp) _)
  have T1 := Lib.hid fun hn => toGo_any (SizeOf.sizeOf j) j _ _ S (Nat.le_refl _) HJ.out (HA.out.go (fun b hb => W3.out.block b (HS.out b hb)) (fun _ h => h)) hn
  unfold VC.val VC.arr at *
  unfold VC.nil at R0
  go_enter Tryz.func9, Tryz.ntmps9
  go_wp2_with fail
  refine (T1.out ?_).mono ?_
  · intro b hb; exact Nat.lt_of_lt_of_le (HS.out b hb) W3.out.size
  rintro e w1 ⟨v1, rfl, hG1, hb1⟩
  have HB1 := Lib.hid hb1
  have W4 := Lib.hid (W3.out.trans (hb1.mono W3.out.size))
  have Z := Lib.hid (HZ.out v1 w1 _ (GR.jr _ (Nat.le_refl _) hG1) (fun b hb => hb.2))
  clear hb1 hG1
  go_wp2_with fail
  refine Z.out.mono ?_
  intro e w3 hz
  obtain ⟨v3, rfl, hb3, hc⟩ := result_in HO.out HN.out hz (fun b hb => hb.2)
  have W6 := Lib.hid (W4.out.trans (hb3.mono W4.out.size))
  have HB3 := Lib.hid hb3
  have HC2 := Lib.hid hc
  clear hz hb3 hc
  go_wp2_with fail
  refine HC2.out.mono ?_
  rintro e w4 ⟨c, rfl, hV, hb4⟩
  have W7 := Lib.hid (W6.out.trans (hb4.mono W6.out.size))
  have r0 := R0.out.below ((HB1.out.trans (HB3.out.mono HB1.out.size)).trans (hb4.mono (Nat.le_trans HB1.out.size HB3.out.size))) (by simp)
  simp only [World.size_alloc] at r0
  have q0 := r0.c0; have q1 := r0.c1; have q2 := r0.c2; have q3 := r0.c3; have q4 := r0.c4; have q5 := r0.c5; have q6 := r0.c6; have qf := r0.fr; have lt := r0.lt
  have HV := Lib.hid hV
  obtain ⟨k9, h9, s9, la9, ll9, lc9, ka9, kl9, kc9, va9, vl9, vc9⟩ := c
  unfold resVal
  clear r0 hV hb4
  go_wp2_with fail
  refine bodyPost_ret (v := .agg #[.int .i64 k9, .int .i64 h9, .string s9, .slice la9 ll9 lc9, .slice ka9 kl9 kc9, .slice va9 vl9 vc9, .int .i64 o.how]) (by simp [results, Tryz.results9, go_sem, q0, q1, q2, q3, q4, q5, q6]) rfl ?_
  have hsz : w.heap.size + 2 ≤ w3.heap.size := Nat.le_trans HB1.out.size HB3.out.size |> Nat.le_trans (by simp)
  exact door_out (N := w.heap.size + 1) HN.out W7.out (by omega) (by omega) HV.out

set_option maxRecDepth 100000 in
theorem IIndex_any (j k : J) (o : Out) (a c : VC) (w : World) (S : Nat → Prop) (hj : JOK j) (hk : JOK k) (ha : VR w S j a) (hc : VR w S k c) (hS : ∀ b, S b → b < w.heap.size) (hs : o ≠ .silent) (hok : ∀ j', o = .value j' → JW j')
    (hZ : ∀ (v x : Value) (w1 : World) (S1 : Nat → Prop), JR w1 S1 j v → JR w1 S1 k x → (∀ b, S1 b → b < w1.heap.size) → Calls Tryz.prog 22 #[v, x] w1 (GIn S1 w1 o)) :
    Calls Tryz.prog 12 #[a.val, c.val] w (DoorOut w o) := by
  have B2 := Lib.hid (box_alloc (w.alloc (.cells a.arr 26)) c)
  have HA := Lib.hid ha; have HC := Lib.hid hc; have HS := Lib.hid hS; have HN := Lib.hid hs; have HJ := Lib.hid hj; have HK := Lib.hid hk; have HO := Lib.hid hok; have HZ := Lib.hid hZ
  clear ha hc hS hs hj hk hok hZ
  obtain ⟨k0, h0, s0, la, ll, lc, ka, kl, kc, va, vl, vc⟩ := a
  obtain ⟨k0', h0', s0', la', ll', lc', ka', kl', kc', va', vl', vc'⟩ := c
  have R0 := Lib.hid (resbox_alloc ((w.alloc (.cells (VC.arr ⟨k0, h0, s0, la, ll, lc, ka, kl, kc, va, vl, vc⟩) 26)).alloc (.cells (VC.arr ⟨k0', h0', s0', la', ll', lc', ka', kl', kc', va', vl', vc'⟩) 26)) VC.nil 0)
  have W3 : Hid (Below w.heap.size w (((w.alloc (.cells (VC.arr ⟨k0, h0, s0, la, ll, lc, ka, kl, kc, va, vl, vc⟩) 26)).alloc (.cells (VC.arr ⟨k0', h0', s0', la', ll', lc', ka', kl', kc', va', vl', vc'⟩) 26)).alloc (.cells #[.int .i64 0, .int .i64 0, .string ByteArray.empty, .slice none 0 0, .slice none 0 0, .slice none 0 0, .int .i64 0] 30))) :=
    Lib.hid ((((Below.refl _ _).alloc (Nat.le_refl _) _).alloc (by simp) _).alloc (by simp; omega) _)
  have T1 := Lib.hid fun hn => toGo_any (SizeOf.sizeOf j) j _ _ S (Nat.le_refl _) HJ.out (HA.out.go (fun b hb => W3.out.block b (HS.out b hb)) (fun _ h => h)) hn
  unfold VC.val VC.arr at *
  unfold VC.nil at R0
  go_enter Tryz.func12, Tryz.ntmps12
  go_wp2_with fail
  refine (T1.out ?_).mono ?_
  · intro b hb; exact Nat.lt_of_lt_of_le (HS.out b hb) W3.out.size
  rintro e w1 ⟨v1, rfl, hG1, hb1⟩
  have b2 := B2.out.below (((Below.refl (w.heap.size + 2) _).alloc (by simp) _).trans (hb1.mono (by simp))) (by simp)
  simp only [World.size_alloc] at b2
  have q0 := b2.c0; have q1 := b2.c1; have q2 := b2.c2; have q3 := b2.c3; have q4 := b2.c4; have q5 := b2.c5
  have HB1 := Lib.hid hb1; have HG1 := Lib.hid hG1
  have hb3 := W3.out.trans (hb1.mono W3.out.size)
  have W4 := Lib.hid hb3
  have T2 := Lib.hid fun hn => toGo_any (SizeOf.sizeOf k) k _ _ S (Nat.le_refl _) HK.out (HC.out.go (fun b hb => W4.out.block b (HS.out b hb)) (fun _ h => h)) hn
  unfold VC.val VC.arr at T2
  clear hb1 hG1 hb3 b2
  go_wp2_with fail
  refine (T2.out ?_).mono ?_
  · intro b hb; exact Nat.lt_of_lt_of_le (HS.out b hb) W4.out.size
  rintro e w2 ⟨v2, rfl, hG2, hb2⟩
  have HB2 := Lib.hid hb2
  have Z := Lib.hid (HZ.out v1 v2 w2 (· < w2.heap.size) (GR.jr _ (Nat.le_refl _) (HG1.out.go (fun b hb => hb2.block b hb.2) (fun b hb => Nat.lt_of_lt_of_le hb.2 hb2.size))) (GR.jr _ (Nat.le_refl _) (hG2.mono (fun b hb => hb.2))) (fun b hb => hb))
  have W5 := Lib.hid (W4.out.trans (hb2.mono W4.out.size))
  clear hb2 hG2
  go_wp2_with fail
  refine Z.out.mono ?_
  intro e w3 hz
  obtain ⟨v3, rfl, hb3, hc⟩ := result_in HO.out HN.out hz (fun b hb => hb)
  have W6 := Lib.hid (W5.out.trans (hb3.mono W5.out.size))
  have HB3 := Lib.hid hb3
  have HC2 := Lib.hid hc
  clear hz hb3 hc
  go_wp2_with fail
  refine HC2.out.mono ?_
  rintro e w4 ⟨c, rfl, hV, hb4⟩
  have W7 := Lib.hid (W6.out.trans (hb4.mono W6.out.size))
  have r0 := R0.out.below (((HB1.out.trans (HB2.out.mono HB1.out.size)).trans (HB3.out.mono (Nat.le_trans HB1.out.size HB2.out.size))).trans (hb4.mono (Nat.le_trans (Nat.le_trans HB1.out.size HB2.out.size) HB3.out.size))) (by simp)
  simp only [World.size_alloc] at r0
  have q0 := r0.c0; have q1 := r0.c1; have q2 := r0.c2; have q3 := r0.c3; have q4 := r0.c4; have q5 := r0.c5; have q6 := r0.c6; have qf := r0.fr; have lt := r0.lt
  have HV := Lib.hid hV
  obtain ⟨k9, h9, s9, la9, ll9, lc9, ka9, kl9, kc9, va9, vl9, vc9⟩ := c
  unfold resVal
  clear r0 hV hb4
  go_wp2_with fail
  refine bodyPost_ret (v := .agg #[.int .i64 k9, .int .i64 h9, .string s9, .slice la9 ll9 lc9, .slice ka9 kl9 kc9, .slice va9 vl9 vc9, .int .i64 o.how]) (by simp [results, Tryz.results12, go_sem, q0, q1, q2, q3, q4, q5, q6]) rfl ?_
  have hsz : w.heap.size + 3 ≤ w3.heap.size := Nat.le_trans (Nat.le_trans HB1.out.size HB2.out.size) HB3.out.size |> Nat.le_trans (by simp)
  exact door_out (N := w.heap.size + 1 + 1) HN.out W7.out (by omega) (by omega) HV.out

end Go.Proofs.YtjannccgfmclhaaGreatDoor
