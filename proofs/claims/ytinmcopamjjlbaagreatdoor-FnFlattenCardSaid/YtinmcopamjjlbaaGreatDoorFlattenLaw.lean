/- A part of the proof. -/
import Derived.Test.YtinmcopamjjlbaaGreatDoorFits
import Derived.Test.YtinmcopamjjlbaaGreatDoorSame
import Derived.Test.YtinmcopamjjlbaaGreatDoorDoorFlat
import Derived.Deep.RegionWith
namespace Go.Proofs.YtinmcopamjjlbaaGreatDoor
open Go.RowKit

set_option maxHeartbeats 4000000 in
theorem FnFlatten_any (ta : T) (a : VC) (B : Nat) {w : World} (hB : B ≤ w.heap.size) (h40 : LB ≤ B) (hT : Tabs w) (ha : TR w B ta a) :
    Calls Tryz.prog 3 #[a.val] w (TruePost w) := by
  have hb0 : Below w.heap.size w (w.alloc (.cells a.arr 26)) := (Below.refl _ _).alloc (Nat.le_refl _) _
  have Z1 := Lib.hid (zzFits1_any ta a (B := B) (w := w.alloc (.cells a.arr 26)) (by simp; omega) (ha.go (hb0.mono hB) (Nat.le_refl _)))
  have HB0 := Lib.hid hb0; have BX0 := Lib.hid (box_alloc w a)
  have HA := Lib.hid ha; have HT := Lib.hid hT
  clear hb0 ha hT
  obtain ⟨k0, h0, s0, la, ll, lc, ka, kl, kc, va, vl, vc⟩ := a
  unfold VC.val
  unfold VC.val at Z1
  unfold VC.arr at *
  go_enter Tryz.func3, Tryz.ntmps3
  go_wp2_with fail
  refine Z1.out.mono ?_
  rintro e w1 ⟨b1, rfl, hb1⟩
  have x0 := BX0.out.below hb1 (by simp)
  have p0 := x0.c0; have p1 := x0.c1; have p2 := x0.c2; have p3 := x0.c3; have p4 := x0.c4; have p5 := x0.c5
  have W1 := Lib.hid (HB0.out.trans (hb1.mono HB0.out.size))
  have HB1 := Lib.hid hb1
  clear hb1 x0
  cases b1 with
  | false =>
    go_wp2_with fail
    go_ret
    exact ⟨rfl, W1.out⟩
  | true =>
    go_wp2_with fail
    have hp := box_alloc w1 ⟨k0, h0, s0, la, ll, lc, ka, kl, kc, va, vl, vc⟩
    unfold VC.arr at hp
    have bal : ∀ o, Below w.heap.size w (w1.alloc o) := fun o => W1.out.alloc W1.out.size o
    have F := fits_any [ta] (fun _ => ⟨k0, h0, s0, la, ll, lc, ka, kl, kc, va, vl, vc⟩) w1.heap.size 1 B (w := w1.alloc _) (by simp) (by have := W1.out.size; simp; omega) h40 (HT.out.below ((bal _).mono hB) h40) (by simp) (fun i hi => by
      obtain rfl : i = 0 := by simp at hi; omega
      exact ⟨by simpa using hp.at6, HA.out.go ((bal _).mono hB) (Nat.le_refl _)⟩)
    refine F.mono ?_
    rintro e w3 ⟨b3, rfl, hgood, hb3⟩
    clear F hp bal
    have x0 := BX0.out.below (HB1.out.trans (((Below.refl _ _).alloc HB1.out.size _).trans (hb3.mono (by have := HB1.out.size; simp at this ⊢; omega)))) (by simp)
    clear p0 p1 p2 p3 p4 p5
    have W3 := Lib.hid ((W1.out.alloc W1.out.size _).trans (hb3.mono (by have := W1.out.size; simp; omega)))
    have p0 := x0.c0; have p1 := x0.c1; have p2 := x0.c2; have p3 := x0.c3; have p4 := x0.c4; have p5 := x0.c5
    have X0 := Lib.hid x0; have HG := Lib.hid hgood
    have sz3 : w.heap.size + 1 ≤ w3.heap.size := Nat.le_trans (by have := HB1.out.size; simp at this ⊢; omega) hb3.size
    clear hgood hb3 x0
    cases b3 with
    | false =>
      go_wp2_with fail
      go_ret
      exact ⟨rfl, W3.out⟩
    | true =>
      have GD : Good ta ∧ ta.n ≤ 400 := HG.out rfl 0 (by simp)
      have JA := JOK.of GD.1 GD.2
      have JN := Nat.le_trans (T.j_n _ ta (Nat.le_refl _) GD.1) GD.2
      have VA : ∀ w', Below w.heap.size w w' → VR w' (· < B) ta.j _ := fun w' hb => VR.of GD.1 (HA.out.go (hb.mono hB) (Nat.le_refl _))
      have C1H := Lib.hid (Call_flat (S := (· < B)) ta.j _ (w := w3) JA JN (VA _ W3.out) (fun b h => by have := W3.out.size; omega))
      have VAH := Lib.hid VA; have JAH := Lib.hid JA; have JNH := Lib.hid JN
      have OK := Lib.hid (flatOut_ok JA JN)
      clear VA JA JN GD HG
      unfold VC.val VC.arr at C1H
      go_wp2_with fail
      refine C1H.out.mono ?_
      rintro e w5 ⟨c9, rfl, hv, hb5⟩
      clear p0 p1 p2 p3 p4 p5
      have W5 := Lib.hid (W3.out.trans (hb5.mono W3.out.size))
      have x0 := X0.out.below (hb5.mono sz3) (by omega)
      have sz5 := hb5.size
      have p0 := x0.c0; have p1 := x0.c1; have p2 := x0.c2; have p3 := x0.c3; have p4 := x0.c4; have p5 := x0.c5
      clear X0
      have X0 := Lib.hid x0; have HV := Lib.hid hv; have H5 := Lib.hid hb5
      clear hb5 x0 hv C1H
      have IHX := Lib.hid fun w' hb hs => IFlatten_any ta.j _ w' (· < B) JAH.out JNH.out (VAH.out w' hb) (fun b h => by have := hb.size; omega) hs
      unfold VC.val VC.arr at IHX
      generalize flatOut ta.j = o at *
      obtain ⟨k9, h9, s9, la9, ll9, lc9, ka9, kl9, kc9, va9, vl9, vc9⟩ := c9
      unfold VC.val VC.arr
      cases o with
      | silent =>
        clear IHX
        simp only [Out.how]
        go_wp2_with fail
        go_ret
        exact ⟨rfl, W5.out.alloc W5.out.size _⟩
      | raises =>
        have BX := Lib.hid (box_alloc w5 ⟨k9, h9, s9, la9, ll9, lc9, ka9, kl9, kc9, va9, vl9, vc9⟩)
        unfold VC.arr at BX
        simp only [Out.how]
        have lt0 : w.heap.size < w5.heap.size := by omega
        go_wp2_with fail
        go_region_with (first
          | (go_at_call 8; refine (IHX.out _ ?_ ?_).mono ?_; exact (W5.out.alloc W5.out.size _).drew; exact fun h => by cases h
             rintro e w6 ⟨c8, rfl, hb6⟩
             have bx := BX.out.below (((Below.refl (w5.heap.size + 1) _).drew).trans (hb6.mono (by simp))) (by omega)
             clear p0 p1 p2 p3 p4 p5
             have p0 := bx.c0; have p1 := bx.c1; have p2 := bx.c2; have p3 := bx.c3; have p4 := bx.c4; have p5 := bx.c5
             have W6 := Lib.hid ((W5.out.alloc W5.out.size _).drew.trans (hb6.mono (by have := W5.out.size; simp; omega)))
             clear bx hb6
             obtain ⟨k8, h8, s8, la8, ll8, lc8, ka8, kl8, kc8, va8, vl8, vc8⟩ := c8
             unfold resVal)
          | (go_at_call 7; refine (told_raises ⟨k8, h8, s8, la8, ll8, lc8, ka8, kl8, kc8, va8, vl8, vc8⟩ ⟨k9, h9, s9, la9, ll9, lc9, ka9, kl9, kc9, va9, vl9, vc9⟩ _).mono ?_
             rintro e w7 ⟨rfl, hb7⟩
             have W7 := Lib.hid (W6.out.trans (hb7.mono W6.out.size))
             clear hb7))
        all_goals
          go_wp2_with fail
          go_ret
          exact ⟨rfl, W7.out⟩
      | value j =>
        have BX := Lib.hid (box_alloc w5 ⟨k9, h9, s9, la9, ll9, lc9, ka9, kl9, kc9, va9, vl9, vc9⟩)
        have V9 := Lib.hid ((HV.out _ rfl).mono (S' := (· < w5.heap.size)) (fun b hb => hb.elim (fun h => by omega) (fun h => h.2)))
        unfold VC.arr at BX
        simp only [Out.how]
        have lt0 : w.heap.size < w5.heap.size := by omega
        go_wp2_with fail
        go_region_with (first
          | (go_at_call 8; refine (IHX.out _ ?_ ?_).mono ?_; exact (W5.out.alloc W5.out.size _).drew; exact fun h => by cases h
             rintro e w6 ⟨c8, rfl, hv8, hb6⟩
             have bx := BX.out.below (((Below.refl (w5.heap.size + 1) _).drew).trans (hb6.mono (by simp))) (by omega)
             clear p0 p1 p2 p3 p4 p5
             have p0 := bx.c0; have p1 := bx.c1; have p2 := bx.c2; have p3 := bx.c3; have p4 := bx.c4; have p5 := bx.c5
             have W6 := Lib.hid ((W5.out.alloc W5.out.size _).drew.trans (hb6.mono (by have := W5.out.size; simp; omega)))
             have b56 : Below w5.heap.size w5 w6 := ((Below.refl _ _).alloc (Nat.le_refl _) _).drew.trans (hb6.mono (by simp))
             have U9 := Lib.hid (V9.out.go (S' := (· < w6.heap.size)) (fun b hb => b56.block b hb) (fun b hb => Nat.lt_of_lt_of_le hb b56.size))
             have U8 := Lib.hid (hv8.mono (S' := (· < w6.heap.size)) (fun b hb => hb.2))
             clear bx hb6 b56 hv8
             obtain ⟨k8, h8, s8, la8, ll8, lc8, ka8, kl8, kc8, va8, vl8, vc8⟩ := c8
             unfold resVal)
          | (go_at_call 7; refine (told_value j ⟨k8, h8, s8, la8, ll8, lc8, ka8, kl8, kc8, va8, vl8, vc8⟩ ⟨k9, h9, s9, la9, ll9, lc9, ka9, kl9, kc9, va9, vl9, vc9⟩ _ (· < w6.heap.size) (OK.out j rfl) U8.out U9.out (fun _ h => h)).mono ?_
             rintro e w7 ⟨rfl, hb7⟩
             have W7 := Lib.hid (W6.out.trans (hb7.mono W6.out.size))
             clear hb7))
        all_goals
          go_wp2_with fail
          go_ret
          exact ⟨rfl, W7.out⟩
end Go.Proofs.YtinmcopamjjlbaaGreatDoor
