/- impl.Has at all values where has is not silent: the error, or the bool. -/
import Derived.Test.YtjannccgfmclhaaGreatDoorHas
import Derived.Test.YtjannccgfmclhaaGreatDoorRes
namespace Go.Proofs.YtjannccgfmclhaaGreatDoor
open Go.RowKit

theorem hasOut_value (j k : J) : hasOut j k = .silent ∨ hasOut j k = .raises ∨ ∃ b, hasOut j k = .value (.bool b) := by
  unfold hasOut
  split
  · exact Or.inr (Or.inr ⟨_, rfl⟩)
  · split
    · exact Or.inr (Or.inr ⟨_, rfl⟩)
    · exact Or.inl rfl
  · exact Or.inl rfl
  · exact Or.inr (Or.inl rfl)

theorem ZzHas_any (j k : J) (v x : Value) (w : World) (S S' : Nat → Prop) (hv : GR w S j.g v) (hx : GR w S' k.g x) (hs : hasOut j k ≠ .silent) :
    Calls Tryz.prog 23 #[v, x] w (GOut w (hasOut j k)) := by
  have H := Lib.hid (funcHas_any j k v x w S S' hv hx hs)
  clear hv hx
  generalize hasOut j k = o at H hs ⊢
  go_enter Tryz.func23, Tryz.ntmps23
  go_wp2_with fail
  refine H.out.mono ?_
  intro e w' h
  clear H
  cases o with
  | silent => exact absurd rfl hs
  | raises =>
    obtain ⟨p, rfl, hb⟩ := h
    go_wp2_with fail
    go_ret
    exact ⟨p, rfl, hb⟩
  | value j1 =>
    obtain ⟨v1, rfl, hG, hb⟩ := h
    go_wp2_with fail
    go_ret
    exact ⟨v1, rfl, hG, hb⟩

theorem IHas_any (j k : J) (a c : VC) (w : World) (S : Nat → Prop) (hj : JOK j) (hk : JOK k) (ha : VR w S j a) (hc : VR w S k c) (hS : ∀ b, S b → b < w.heap.size) (hs : hasOut j k ≠ .silent) :
    Calls Tryz.prog 13 #[a.val, c.val] w (DoorOut w (hasOut j k)) := by
  have B2 := Lib.hid (box_alloc (w.alloc (.cells a.arr 26)) c)
  have B1 := Lib.hid ((box_alloc w a).below ((Below.refl (w.heap.size + 1) (w.alloc (.cells a.arr 26))).alloc (by simp) (.cells c.arr 26)) (by omega))
  have HA := Lib.hid ha; have HC := Lib.hid hc; have HS := Lib.hid hS; have HN := Lib.hid hs; have HJ := Lib.hid hj; have HK := Lib.hid hk
  clear ha hc hS hs hj hk
  obtain ⟨k0, h0, s0, la, ll, lc, ka, kl, kc, va, vl, vc⟩ := a
  obtain ⟨k0', h0', s0', la', ll', lc', ka', kl', kc', va', vl', vc'⟩ := c
  have R0 := Lib.hid (resbox_alloc ((w.alloc (.cells (VC.arr ⟨k0, h0, s0, la, ll, lc, ka, kl, kc, va, vl, vc⟩) 26)).alloc (.cells (VC.arr ⟨k0', h0', s0', la', ll', lc', ka', kl', kc', va', vl', vc'⟩) 26)) VC.nil 0)
  have W3 : Hid (Below w.heap.size w (((w.alloc (.cells (VC.arr ⟨k0, h0, s0, la, ll, lc, ka, kl, kc, va, vl, vc⟩) 26)).alloc (.cells (VC.arr ⟨k0', h0', s0', la', ll', lc', ka', kl', kc', va', vl', vc'⟩) 26)).alloc (.cells #[.int .i64 0, .int .i64 0, .string ByteArray.empty, .slice none 0 0, .slice none 0 0, .slice none 0 0, .int .i64 0] 30))) :=
    Lib.hid ((((Below.refl _ _).alloc (Nat.le_refl _) _).alloc (by simp) _).alloc (by simp; omega) _)
  have T1 := Lib.hid fun hn => toGo_any (SizeOf.sizeOf j) j _ _ S (Nat.le_refl _) HJ.out (HA.out.go (fun b hb => W3.out.block b (HS.out b hb)) (fun _ h => h)) hn
  unfold VC.val VC.arr at *
  unfold VC.nil at R0
  go_enter Tryz.func13, Tryz.ntmps13
  go_wp2_with fail
  refine (T1.out ?_).mono ?_
  · intro b hb; exact Nat.lt_of_lt_of_le (HS.out b hb) W3.out.size
  rintro e w1 ⟨v1, rfl, hG1, hb1⟩
  have b2 := B2.out.below (((Below.refl (w.heap.size + 2) _).alloc (by simp) _).trans (hb1.mono (by simp))) (by simp)
  simp only [World.size_alloc] at b2
  have q0 := b2.c0; have q1 := b2.c1; have q2 := b2.c2; have q3 := b2.c3; have q4 := b2.c4; have q5 := b2.c5
  have HB1 := Lib.hid hb1; have HG1 := Lib.hid hG1
  have hb3 := W3.out.trans (hb1.mono W3.out.size)
  have W4 := Lib.hid hb3
  have T2 := Lib.hid fun hn => toGo_any (SizeOf.sizeOf k) k _ _ S (Nat.le_refl _) HK.out (HC.out.go (fun b hb => W4.out.block b (HS.out b hb)) (fun _ h => h)) hn
  unfold VC.val VC.arr at T2
  clear hb1 hG1 hb3 b2
  go_wp2_with fail
  refine (T2.out ?_).mono ?_
  · intro b hb; exact Nat.lt_of_lt_of_le (HS.out b hb) W4.out.size
  rintro e w2 ⟨v2, rfl, hG2, hb2⟩
  have hv := HG1.out.go (fun b hb => hb2.block b hb.2) (fun _ h => h)
  have HB2 := Lib.hid hb2
  have Z := Lib.hid (ZzHas_any j k _ v2 w2 _ _ hv hG2 HN.out)
  have W5 := Lib.hid (W4.out.trans (hb2.mono W4.out.size))
  clear hb2 hv hG2
  go_wp2_with fail
  refine Z.out.mono ?_
  intro e w3 hz
  obtain ⟨v3, rfl, hb3, hc⟩ := result_has _ (by rcases hasOut_value j k with h | h; exact absurd h HN.out; exact h) hz
  have W6 := Lib.hid (W5.out.trans (hb3.mono W5.out.size))
  have HB3 := Lib.hid hb3
  have HC2 := Lib.hid hc
  clear hz hb3 hc
  go_wp2_with fail
  refine HC2.out.mono ?_
  rintro e w4 ⟨c, rfl, hV, hb4⟩
  have W7 := Lib.hid (W6.out.trans (hb4.mono W6.out.size))
  have r0 := R0.out.below (((HB1.out.trans (HB2.out.mono HB1.out.size)).trans (HB3.out.mono (Nat.le_trans HB1.out.size HB2.out.size))).trans (hb4.mono (Nat.le_trans (Nat.le_trans HB1.out.size HB2.out.size) HB3.out.size))) (by simp)
  simp only [World.size_alloc] at r0
  have q0 := r0.c0; have q1 := r0.c1; have q2 := r0.c2; have q3 := r0.c3; have q4 := r0.c4; have q5 := r0.c5; have q6 := r0.c6; have qf := r0.fr; have lt := r0.lt
  have HV := Lib.hid hV
  obtain ⟨k9, h9, s9, la9, ll9, lc9, ka9, kl9, kc9, va9, vl9, vc9⟩ := c
  unfold resVal
  clear r0 hV hb4
  go_wp2_with fail
  refine bodyPost_ret (v := .agg #[.int .i64 k9, .int .i64 h9, .string s9, .slice la9 ll9 lc9, .slice ka9 kl9 kc9, .slice va9 vl9 vc9, .int .i64 (hasOut j k).how]) (by simp [results, Tryz.results13, go_sem, q0, q1, q2, q3, q4, q5, q6]) rfl ?_
  have hz2 : hasOut j k ≠ .silent := HN.out
  have HV2 := HV.out
  have hfin : Below w.heap.size w (resStored w4 (w.heap.size + 1 + 1) ⟨k9, h9, s9, la9, ll9, lc9, ka9, kl9, kc9, va9, vl9, vc9⟩ (hasOut j k).how) := resStored_below W7.out (by omega)
  have hsz : w.heap.size + 3 ≤ w3.heap.size := Nat.le_trans (Nat.le_trans HB1.out.size HB2.out.size) HB3.out.size |> Nat.le_trans (by simp)
  have hV3 : ∀ j', hasOut j k = .value j' → VR (resStored w4 (w.heap.size + 1 + 1) ⟨k9, h9, s9, la9, ll9, lc9, ka9, kl9, kc9, va9, vl9, vc9⟩ (hasOut j k).how) (New w.heap.size (resStored w4 (w.heap.size + 1 + 1) ⟨k9, h9, s9, la9, ll9, lc9, ka9, kl9, kc9, va9, vl9, vc9⟩ (hasOut j k).how)) j' ⟨k9, h9, s9, la9, ll9, lc9, ka9, kl9, kc9, va9, vl9, vc9⟩ :=
    fun j' hj => (HV2 j' hj).go (fun b hb => resStored_block (by have := hb.1; omega)) (fun b hb => ⟨by have := hb.1; omega, by rw [resStored_size]; exact hb.2⟩)
  show DoorOut w (hasOut j k) (.returned (resVal ⟨k9, h9, s9, la9, ll9, lc9, ka9, kl9, kc9, va9, vl9, vc9⟩ (hasOut j k).how)) (resStored w4 (w.heap.size + 1 + 1) ⟨k9, h9, s9, la9, ll9, lc9, ka9, kl9, kc9, va9, vl9, vc9⟩ (hasOut j k).how)
  generalize hasOut j k = o at hz2 hfin hV3 ⊢
  cases o with
  | silent => exact absurd rfl hz2
  | raises => exact ⟨_, rfl, hfin⟩
  | value j' => exact ⟨_, rfl, hV3 j' rfl, hfin⟩
end Go.Proofs.YtjannccgfmclhaaGreatDoor
