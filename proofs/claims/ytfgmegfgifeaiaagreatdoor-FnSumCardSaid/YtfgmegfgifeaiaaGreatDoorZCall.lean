/- spec.Call("has", v, [k]) at all right JSON values. -/
import Derived.Test.YtfgmegfgifeaiaaGreatDoorM23
import Derived.Deep.RegionWith
namespace Go.Proofs.YtfgmegfgifeaiaaGreatDoor
open Go.RowKit

theorem spec_stored {w w1 : World} {N lo : Nat} (c : VC) (o : Out) (hb : Below w.heap.size w w1) (hN : w.heap.size ≤ N) (hlo : N < lo) (hv : ∀ j, o = .value j → VR w1 (New lo w1) j c) :
    SpecOut w o (.returned (.tuple #[c.val, .int .i64 o.how])) (valStored w1 N c) :=
  ⟨c, rfl, fun j hj => (hv j hj).go (fun b hb' => valStored_block (by have := hb'.1; omega)) (fun b hb' => ⟨by have := hb'.1; omega, by rw [valStored_size]; exact hb'.2⟩), valStored_below hb hN⟩

set_option maxRecDepth 100000 in
theorem along_has {S : Nat → Prop} (j k : J) (a c : VC) {w : World} (hj : JOK j) (hk : JOK k) (ha : VR w S j a) (hc : VR w S k c) (hS : ∀ b, S b → b < w.heap.size) :
    Calls Tryz.prog 25 #[.string ⟨#[104, 97, 115]⟩, a.val, c.val] w (SpecOut w (hasOut j k)) := by
  obtain ⟨hb0, bx0, bx1, bx2⟩ := three_boxes w a c
  have H := Lib.hid (shas_any (S := S) j k a c (w := (((w.alloc (.cells a.arr 26)).alloc (.cells c.arr 26)).alloc (.cells VC.nil.arr 26))) hj hk (ha.go (fun b h => hb0.block b (hS b h)) (fun _ h => h)) (hc.go (fun b h => hb0.block b (hS b h)) (fun _ h => h)) (fun b h => Nat.lt_of_lt_of_le (hS b h) hb0.size))
  have HB0 := Lib.hid hb0; have BX := Lib.hid bx2
  clear hb0 bx0 bx1 bx2 ha hc hj hk hS
  generalize hasOut j k = o at *
  obtain ⟨k0, h0, s0, la, ll, lc, ka, kl, kc, va, vl, vc⟩ := a
  obtain ⟨k0', h0', s0', la', ll', lc', ka', kl', kc', va', vl', vc'⟩ := c
  unfold VC.val VC.arr VC.nil at *
  go_enter Tryz.func25, Tryz.ntmps25
  go_wp2_with fail
  refine H.out.mono ?_
  rintro e w1 ⟨c9, rfl, hv, hb1⟩
  have bx := BX.out.below hb1 (by simp)
  have q0 := bx.c0; have q1 := bx.c1; have q2 := bx.c2; have q3 := bx.c3; have q4 := bx.c4; have q5 := bx.c5; have qf := bx.fr; have lt := bx.lt
  have HB1 := Lib.hid hb1; have HV := Lib.hid hv
  clear bx hb1 hv
  obtain ⟨k9, h9, s9, la9, ll9, lc9, ka9, kl9, kc9, va9, vl9, vc9⟩ := c9
  unfold VC.val VC.arr
  go_wp2_with fail
  refine bodyPost_ret (v := .tuple #[.agg #[.int .i64 k9, .int .i64 h9, .string s9, .slice la9 ll9 lc9, .slice ka9 kl9 kc9, .slice va9 vl9 vc9], .int .i64 o.how]) (by simp [results, Tryz.results25, go_sem, q0, q1, q2, q3, q4, q5]) rfl ?_
  exact spec_stored (w := w) (w1 := w1) (N := w.heap.size + 1 + 1) ⟨k9, h9, s9, la9, ll9, lc9, ka9, kl9, kc9, va9, vl9, vc9⟩ o (HB0.out.trans (HB1.out.mono HB0.out.size)) (by omega) (by simp) HV.out

theorem VR.arr1 {w : World} {S : Nat → Prop} {k : J} {c : VC} {N : Nat} (hc : VR w S k c) (hA : At6 w N 0 c) (cap : Nat) (hcap : 1 ≤ cap) : VR w (fun b => S b ∨ b = N) (.arr [k]) {VC.nil with k := 5, la := some ⟨N, 0, none⟩, ll := 1, lc := cap} := by
  rw [VR]
  refine ⟨⟨rfl, rfl, rfl, rfl, rfl, rfl, hcap, Nat.le_refl _, Nat.le_refl _, (fun h => by cases h), fun _ => rfl, fun _ => rfl⟩, fun i hi => ?_, fun i hi => ?_, fun i hi => ?_⟩
  · obtain rfl : i = 0 := by simp [J.list] at hi; omega
    exact ⟨N, 0, c, rfl, Or.inr rfl, by simpa using hA, by simpa [J.list] using hc.mono (fun b h => Or.inl h)⟩
  · simp [J.ents] at hi
  · simp [J.ents] at hi
theorem JOK.arr1 {k : J} (hk : JOK k) : JOK (.arr [k]) := by
  rw [JOK]
  refine ⟨by simp [J.half], by simp [J.text, ByteArray.size], by simp [J.list], by simp [J.ents], fun i hi => ?_, fun i hi => ?_, fun i hi => ?_, fun i hi => ?_⟩
  · obtain rfl : i = 0 := by simp [J.list] at hi; omega
    simpa [J.list] using hk
  · simp [J.ents] at hi
  · simp [J.ents] at hi
  · simp [J.ents] at hi

set_option maxRecDepth 100000 in
theorem Call_has {S : Nat → Prop} (j k : J) (a c : VC) (N : Nat) {w : World} (hj : JOK j) (hk : JOK k) (ha : VR w S j a) (hc : VR w S k c) (hA : At6 w N 0 c) (hS : ∀ b, S b → b < w.heap.size) (hN : N < w.heap.size) (cap : Nat) (hcap : 1 ≤ cap) :
    Calls Tryz.prog 10 #[.string ⟨#[104, 97, 115]⟩, a.val, .slice (some ⟨N, 0, none⟩) 1 cap] w (SpecOut w (hasOut j k)) := by
  generalize ho : hasOut j k = o
  have B0 := box_alloc w a
  have b1 : Below w.heap.size w ((w.alloc (.cells a.arr 26)).alloc (.cells VC.nil.arr 26)) := ((Below.refl _ _).alloc (Nat.le_refl _) _).alloc (by simp) _
  have bx0 : Box ((w.alloc (.cells a.arr 26)).alloc (.cells VC.nil.arr 26)) w.heap.size a := B0.below ((Below.refl (w.heap.size + 1) _).alloc (by simp) _) (by omega)
  have bx1 : Box ((w.alloc (.cells a.arr 26)).alloc (.cells VC.nil.arr 26)) (w.heap.size + 1) VC.nil := by
    have := box_alloc (w.alloc (.cells a.arr 26)) VC.nil
    simp only [World.size_alloc] at this
    exact this
  have ha2 := ha.go (fun b h => b1.block b (hS b h)) (fun _ h => h) (w' := (w.alloc (.cells a.arr 26)).alloc (.cells VC.nil.arr 26)) (S' := S)
  have V1 := Lib.hid (Vague_any (SizeOf.sizeOf j) j a _ S (Nat.le_refl _) hj ha2 (fun b h => Nat.lt_of_lt_of_le (hS b h) b1.size))
  have HB1 := Lib.hid b1; have BX0 := Lib.hid bx0; have BX1 := Lib.hid bx1
  have HA := Lib.hid ha; have HC := Lib.hid hc; have HS := Lib.hid hS; have HJ := Lib.hid hj; have HK := Lib.hid hk; have H6 := Lib.hid hA
  clear B0 b1 bx0 bx1 ha2 ha hc hS hj hk hA
  obtain ⟨k0, h0, s0, la, ll, lc, ka, kl, kc, va, vl, vc⟩ := a
  obtain ⟨k0', h0', s0', la', ll', lc', ka', kl', kc', va', vl', vc'⟩ := c
  unfold VC.val VC.arr VC.nil at *
  go_enter Tryz.func10, Tryz.ntmps10
  go_wp2_with fail
  refine V1.out.mono ?_
  rintro e w1 ⟨rfl, hb2⟩
  have HB2 := Lib.hid hb2
  clear hb2
  go_wp2_with fail
  refine (Array_any _ _ _ w1).mono ?_
  rintro e w2 ⟨rfl, hb3⟩
  have HB3 := Lib.hid hb3
  clear hb3
  unfold VC.val VC.arr VC.nil
  have W2 := Lib.hid ((HB1.out.trans (HB2.out.mono HB1.out.size)).trans (HB3.out.mono (Nat.le_trans HB1.out.size HB2.out.size)))
  have hc2 := HC.out.go (fun b h => W2.out.block b (HS.out b h)) (fun _ h => h) (w' := w2) (S' := S)
  have V2 := Lib.hid (Vague_any _ (.arr [k]) _ w2 _ (Nat.le_refl _) (JOK.arr1 HK.out) (hc2.arr1 (H6.out.below W2.out hN) cap hcap) (fun b h => by
    have := W2.out.size
    rcases h with h | rfl
    · have := HS.out b h; omega
    · omega))
  clear hc2
  unfold VC.val VC.arr VC.nil at V2
  go_wp2_with fail
  refine V2.out.mono ?_
  rintro e w3 ⟨rfl, hb4⟩
  have W3 := Lib.hid (W2.out.trans (hb4.mono W2.out.size))
  have m1 : w.heap.size + 2 ≤ w1.heap.size := by have := HB2.out.size; simpa using this
  have m2 := HB3.out.size
  have m3 := hb4.size
  have bt : Below (w.heap.size + 2) ((w.alloc (.cells #[.int .i64 k0, .int .i64 h0, .string s0, .slice la ll lc, .slice ka kl kc, .slice va vl vc] 26)).alloc (.cells #[.int .i64 0, .int .i64 0, .string ByteArray.empty, .slice none 0 0, .slice none 0 0, .slice none 0 0] 26)) w3 :=
    ((HB2.out.mono (by simp)).trans (HB3.out.mono (by omega))).trans (hb4.mono (by omega))
  have b0 := BX0.out.below bt (by omega)
  have q0 := b0.c0; have q1 := b0.c1; have q2 := b0.c2; have q3 := b0.c3; have q4 := b0.c4; have q5 := b0.c5
  have a6 := H6.out.below W3.out hN
  have g0 := a6.c0; have g1 := a6.c1; have g2 := a6.c2; have g3 := a6.c3; have g4 := a6.c4; have g5 := a6.c5
  have BT := Lib.hid bt
  have L := Lib.hid (along_has (S := S) j k _ _ HJ.out HK.out (HA.out.go (fun b h => W3.out.block b (HS.out b h)) (fun _ h => h) (w' := w3.drew) (S' := S)) (HC.out.go (fun b h => W3.out.block b (HS.out b h)) (fun _ h => h) (w' := w3.drew) (S' := S)) (fun b h => Nat.lt_of_lt_of_le (HS.out b h) W3.out.size))
  unfold VC.val VC.arr at L
  clear hb4 bt b0 a6
  go_wp2_with fail
  go_region_with (
    go_at_call 25; refine L.out.mono ?_; rw [ho]; rintro e w4 ⟨c9, rfl, hv, hb5⟩
    have bx := BX1.out.below (BT.out.drew.trans (hb5.mono (by simp; omega))) (by omega)
    clear q0 q1 q2 q3 q4 q5 g0 g1 g2 g3 g4 g5
    have q0 := bx.c0; have q1 := bx.c1; have q2 := bx.c2; have q3 := bx.c3; have q4 := bx.c4; have q5 := bx.c5; have qf := bx.fr; have lt := bx.lt
    have HB5 := Lib.hid hb5; have HV := Lib.hid hv
    clear bx hb5 hv
    obtain ⟨k9, h9, s9, la9, ll9, lc9, ka9, kl9, kc9, va9, vl9, vc9⟩ := c9
    unfold VC.val VC.arr)
  all_goals
    go_wp2_with fail
    refine bodyPost_ret (v := .tuple #[.agg #[.int .i64 k9, .int .i64 h9, .string s9, .slice la9 ll9 lc9, .slice ka9 kl9 kc9, .slice va9 vl9 vc9], .int .i64 o.how]) (by simp [results, Tryz.results10, go_sem, q0, q1, q2, q3, q4, q5]) rfl ?_
    exact spec_stored (w := w) (w1 := w4) (N := w.heap.size + 1) ⟨k9, h9, s9, la9, ll9, lc9, ka9, kl9, kc9, va9, vl9, vc9⟩ o (W3.out.drew.trans (HB5.out.mono W3.out.size)) (by omega) (by simp; omega) HV.out
end Go.Proofs.YtfgmegfgifeaiaaGreatDoor
