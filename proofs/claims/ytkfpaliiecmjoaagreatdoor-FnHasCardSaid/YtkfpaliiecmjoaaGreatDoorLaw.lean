/- laws.FnHas at any readable trees: true, and nothing that was there is touched. -/
import Derived.Test.YtkfpaliiecmjoaaGreatDoorFits
import Derived.Test.YtkfpaliiecmjoaaGreatDoorCall
import Derived.Test.YtkfpaliiecmjoaaGreatDoorSame
namespace Go.Proofs.YtkfpaliiecmjoaaGreatDoor
open Go.RowKit

theorem two_boxes (w : World) (a c : VC) : Below w.heap.size w ((w.alloc (.cells a.arr 26)).alloc (.cells c.arr 26)) ∧
    Box ((w.alloc (.cells a.arr 26)).alloc (.cells c.arr 26)) w.heap.size a ∧
    Box ((w.alloc (.cells a.arr 26)).alloc (.cells c.arr 26)) (w.heap.size + 1) c := by
  refine ⟨((Below.refl _ _).alloc (Nat.le_refl _) _).alloc (by simp) _, ?_, ?_⟩
  · exact (box_alloc w a).below ((Below.refl (w.heap.size + 1) _).alloc (by simp) _) (by omega)
  · have := box_alloc (w.alloc (.cells a.arr 26)) c
    simp only [World.size_alloc] at this
    exact this

/-- A slice of two Values, and of one. -/
theorem pair_at (w : World) (a c : VC) : At6 (w.alloc (.cells #[.int .i64 a.k, .int .i64 a.h, .string a.s, .slice a.la a.ll a.lc, .slice a.ka a.kl a.kc, .slice a.va a.vl a.vc, .int .i64 c.k, .int .i64 c.h, .string c.s, .slice c.la c.ll c.lc, .slice c.ka c.kl c.kc, .slice c.va c.vl c.vc] 26)) w.heap.size 0 a ∧
    At6 (w.alloc (.cells #[.int .i64 a.k, .int .i64 a.h, .string a.s, .slice a.la a.ll a.lc, .slice a.ka a.kl a.kc, .slice a.va a.vl a.vc, .int .i64 c.k, .int .i64 c.h, .string c.s, .slice c.la c.ll c.lc, .slice c.ka c.kl c.kc, .slice c.va c.vl c.vc] 26)) w.heap.size 6 c := by
  refine ⟨⟨?_, ?_, ?_, ?_, ?_, ?_⟩, ⟨?_, ?_, ?_, ?_, ?_, ?_⟩⟩ <;> simp [World.cell?_alloc_at]

theorem JOK.bool (b : Bool) : JOK (.bool b) := by
  rw [JOK]
  refine ⟨by simp [J.half], by simp [J.text, ByteArray.size], by simp [J.list], by simp [J.ents], fun i hi => ?_, fun i hi => ?_, fun i hi => ?_, fun i hi => ?_⟩
  · simp [J.list] at hi
  · simp [J.ents] at hi
  · simp [J.ents] at hi
  · simp [J.ents] at hi

set_option maxHeartbeats 4000000 in
theorem FnHas_any (ta tc : T) (a c : VC) (B : Nat) {w : World} (hB : B ≤ w.heap.size) (h40 : LB ≤ B) (hT : Tabs w) (ha : TR w B ta a) (hc : TR w B tc c) :
    Calls Tryz.prog 3 #[a.val, c.val] w (TruePost w) := by
  obtain ⟨hb0, bx0, bx1⟩ := two_boxes w a c
  have Z1 := Lib.hid (zzFits1_any ta a (B := B) (w := (w.alloc (.cells a.arr 26)).alloc (.cells c.arr 26)) (by simp; omega) (ha.go (hb0.mono hB) (Nat.le_refl _)))
  have HB0 := Lib.hid hb0; have BX0 := Lib.hid bx0; have BX1 := Lib.hid bx1
  have HA := Lib.hid ha; have HC := Lib.hid hc; have HT := Lib.hid hT
  clear hb0 bx0 bx1 ha hc hT
  obtain ⟨k0, h0, s0, la, ll, lc, ka, kl, kc, va, vl, vc⟩ := a
  obtain ⟨k0', h0', s0', la', ll', lc', ka', kl', kc', va', vl', vc'⟩ := c
  unfold VC.val
  unfold VC.val at Z1
  unfold VC.arr at *
  go_enter Tryz.func3, Tryz.ntmps3
  go_wp2_with fail
  refine Z1.out.mono ?_
  rintro e w1 ⟨b1, rfl, hb1⟩
  have x0 := BX0.out.below hb1 (by simp; omega)
  have x1 := BX1.out.below hb1 (by simp)
  have p0 := x0.c0; have p1 := x0.c1; have p2 := x0.c2; have p3 := x0.c3; have p4 := x0.c4; have p5 := x0.c5
  have q0 := x1.c0; have q1 := x1.c1; have q2 := x1.c2; have q3 := x1.c3; have q4 := x1.c4; have q5 := x1.c5
  have W1 := Lib.hid (HB0.out.trans (hb1.mono HB0.out.size))
  have HB1 := Lib.hid hb1
  clear hb1 x0 x1
  cases b1 with
  | false =>
    go_wp2_with fail
    go_ret
    exact ⟨rfl, W1.out⟩
  | true =>
    have Z2 := Lib.hid (zzFits1_any tc _ (B := B) (w := w1) (Nat.le_trans hB W1.out.size) (HC.out.go (W1.out.mono hB) (Nat.le_refl _)))
    unfold VC.val VC.arr at Z2
    go_wp2_with fail
    refine Z2.out.mono ?_
    rintro e w2 ⟨b2, rfl, hb2⟩
    have x0 := BX0.out.below (HB1.out.trans (hb2.mono HB1.out.size)) (by simp; omega)
    have x1 := BX1.out.below (HB1.out.trans (hb2.mono HB1.out.size)) (by simp)
    clear p0 p1 p2 p3 p4 p5 q0 q1 q2 q3 q4 q5
    have p0 := x0.c0; have p1 := x0.c1; have p2 := x0.c2; have p3 := x0.c3; have p4 := x0.c4; have p5 := x0.c5
    have q0 := x1.c0; have q1 := x1.c1; have q2 := x1.c2; have q3 := x1.c3; have q4 := x1.c4; have q5 := x1.c5
    have W2 := Lib.hid (W1.out.trans (hb2.mono W1.out.size))
    have HB2 := Lib.hid (HB1.out.trans (hb2.mono HB1.out.size))
    clear hb2 x0 x1
    cases b2 with
    | false =>
      go_wp2_with fail
      go_ret
      exact ⟨rfl, W2.out⟩
    | true =>
      go_wp2_with fail
      have hp := pair_at w2 ⟨k0, h0, s0, la, ll, lc, ka, kl, kc, va, vl, vc⟩ ⟨k0', h0', s0', la', ll', lc', ka', kl', kc', va', vl', vc'⟩
      have bal : ∀ o, Below w.heap.size w (w2.alloc o) := fun o => W2.out.alloc W2.out.size o
      have ral : ∀ o, TR (w2.alloc o) B ta _ ∧ TR (w2.alloc o) B tc _ := fun o => ⟨HA.out.go ((bal o).mono hB) (Nat.le_refl _), HC.out.go ((bal o).mono hB) (Nat.le_refl _)⟩
      have F := fits_any [ta, tc] (fun i => if i = 0 then ⟨k0, h0, s0, la, ll, lc, ka, kl, kc, va, vl, vc⟩ else ⟨k0', h0', s0', la', ll', lc', ka', kl', kc', va', vl', vc'⟩) w2.heap.size 2 B (w := w2.alloc _) (by simp) (by have := W2.out.size; simp; omega) h40 (HT.out.below ((bal _).mono hB) h40) (by simp) (fun i hi => by
        have : i = 0 ∨ i = 1 := by simp at hi; omega
        rcases this with rfl | rfl
        · exact ⟨hp.1, (ral _).1⟩
        · exact ⟨hp.2, (ral _).2⟩)
      refine F.mono ?_
      rintro e w3 ⟨b3, rfl, hgood, hb3⟩
      clear F hp ral bal
      have x0 := BX0.out.below (HB2.out.trans (((Below.refl _ _).alloc HB2.out.size _).trans (hb3.mono (by have := HB2.out.size; simp at this ⊢; omega)))) (by simp; omega)
      have x1 := BX1.out.below (HB2.out.trans (((Below.refl _ _).alloc HB2.out.size _).trans (hb3.mono (by have := HB2.out.size; simp at this ⊢; omega)))) (by simp)
      clear p0 p1 p2 p3 p4 p5 q0 q1 q2 q3 q4 q5
      have W3 := Lib.hid ((W2.out.alloc W2.out.size _).trans (hb3.mono (by have := W2.out.size; simp; omega)))
      have p0 := x0.c0; have p1 := x0.c1; have p2 := x0.c2; have p3 := x0.c3; have p4 := x0.c4; have p5 := x0.c5
      have q0 := x1.c0; have q1 := x1.c1; have q2 := x1.c2; have q3 := x1.c3; have q4 := x1.c4; have q5 := x1.c5
      have X0 := Lib.hid x0; have X1 := Lib.hid x1; have HG := Lib.hid hgood
      have sz3 : w.heap.size + 2 ≤ w3.heap.size := Nat.le_trans (by have := HB2.out.size; simp at this ⊢; omega) hb3.size
      clear hgood hb3 x0 x1
      cases b3 with
      | false =>
        go_wp2_with fail
        go_ret
        exact ⟨rfl, W3.out⟩
      | true =>
        have GD : (Good ta ∧ ta.n ≤ 400) ∧ (Good tc ∧ tc.n ≤ 400) := ⟨HG.out rfl 0 (by simp), HG.out rfl 1 (by simp)⟩
        have JA := JOK.of GD.1.1 GD.1.2
        have JC := JOK.of GD.2.1 GD.2.2
        have VA : ∀ w', Below w.heap.size w w' → VR w' (· < B) ta.j _ := fun w' hb => VR.of GD.1.1 (HA.out.go (hb.mono hB) (Nat.le_refl _))
        have VC' : ∀ w', Below w.heap.size w w' → VR w' (· < B) tc.j _ := fun w' hb => VR.of GD.2.1 (HC.out.go (hb.mono hB) (Nat.le_refl _))
        have C1 := Call_has (S := (· < B)) ta.j tc.j _ ⟨k0', h0', s0', la', ll', lc', ka', kl', kc', va', vl', vc'⟩ w3.heap.size (w := w3.alloc (.cells #[.int .i64 k0', .int .i64 h0', .string s0', .slice la' ll' lc', .slice ka' kl' kc', .slice va' vl' vc'] 26)) JA JC
          (VA _ (W3.out.alloc W3.out.size _)) (VC' _ (W3.out.alloc W3.out.size _)) (box_alloc w3 ⟨k0', h0', s0', la', ll', lc', ka', kl', kc', va', vl', vc'⟩).at6 (fun b h => by have := W3.out.size; simp; omega) (by simp) 1
        have C1H := Lib.hid C1; have VAH := Lib.hid VA; have VCH := Lib.hid VC'; have JAH := Lib.hid JA; have JCH := Lib.hid JC
        clear C1 VA VC' JA JC GD HG
        unfold VC.val VC.arr at C1H
        go_wp2_with fail
        refine C1H.out.mono ?_
        rintro e w5 ⟨c9, rfl, hv, hb5⟩
        clear p0 p1 p2 p3 p4 p5 q0 q1 q2 q3 q4 q5
        have W5 := Lib.hid ((W3.out.alloc W3.out.size _).trans (hb5.mono (by have := W3.out.size; simp; omega)))
        have bb : Below (w.heap.size + 2) w3 w5 := ((Below.refl _ _).alloc sz3 _).trans (hb5.mono (by simp; omega))
        have x0 := X0.out.below bb (by omega)
        have x1 := X1.out.below bb (by omega)
        have sz5 := bb.size
        have p0 := x0.c0; have p1 := x0.c1; have p2 := x0.c2; have p3 := x0.c3; have p4 := x0.c4; have p5 := x0.c5
        have q0 := x1.c0; have q1 := x1.c1; have q2 := x1.c2; have q3 := x1.c3; have q4 := x1.c4; have q5 := x1.c5
        clear X0 X1
        have X0 := Lib.hid x0; have X1 := Lib.hid x1; have HV := Lib.hid hv; have H5 := Lib.hid hb5
        clear hb5 bb x0 x1 hv C1H
        have IHX := Lib.hid fun w' hb hs => IHas_any ta.j tc.j _ _ w' (· < B) JAH.out JCH.out (VAH.out w' hb) (VCH.out w' hb) (fun b h => by have := hb.size; omega) hs
        unfold VC.val VC.arr at IHX
        have hout := hasOut_value ta.j tc.j
        generalize hasOut ta.j tc.j = o at *
        obtain ⟨k9, h9, s9, la9, ll9, lc9, ka9, kl9, kc9, va9, vl9, vc9⟩ := c9
        unfold VC.val VC.arr
        cases o with
        | silent =>
          clear IHX hout
          simp only [Out.how]
          go_wp2_with fail
          go_ret
          exact ⟨rfl, W5.out.alloc W5.out.size _⟩
        | raises =>
          clear hout
          have BX := Lib.hid (box_alloc w5 ⟨k9, h9, s9, la9, ll9, lc9, ka9, kl9, kc9, va9, vl9, vc9⟩)
          unfold VC.arr at BX
          simp only [Out.how]
          have lt0 : w.heap.size < w5.heap.size := by omega
          have lt1 : w.heap.size + 1 < w5.heap.size := by omega
          go_wp2_with fail
          go_region_with (first
            | (go_at_call 8; refine (IHX.out _ ?_ ?_).mono ?_; exact (W5.out.alloc W5.out.size _).drew; exact fun h => by cases h
               rintro e w6 ⟨c8, rfl, hb6⟩
               have bx := BX.out.below (((Below.refl (w5.heap.size + 1) _).drew).trans (hb6.mono (by simp))) (by omega)
               clear p0 p1 p2 p3 p4 p5 q0 q1 q2 q3 q4 q5
               have p0 := bx.c0; have p1 := bx.c1; have p2 := bx.c2; have p3 := bx.c3; have p4 := bx.c4; have p5 := bx.c5
               have W6 := Lib.hid ((W5.out.alloc W5.out.size _).drew.trans (hb6.mono (by have := W5.out.size; simp; omega)))
               clear bx hb6
               obtain ⟨k8, h8, s8, la8, ll8, lc8, ka8, kl8, kc8, va8, vl8, vc8⟩ := c8
               unfold resVal)
            | (go_at_call 7; refine (told_raises ⟨k8, h8, s8, la8, ll8, lc8, ka8, kl8, kc8, va8, vl8, vc8⟩ ⟨k9, h9, s9, la9, ll9, lc9, ka9, kl9, kc9, va9, vl9, vc9⟩ _).mono ?_
               rintro e w7 ⟨rfl, hb7⟩
               have W7 := Lib.hid (W6.out.trans (hb7.mono W6.out.size))
               clear hb7))
          all_goals
            go_wp2_with fail
            go_ret
            exact ⟨rfl, W7.out⟩
        | value j =>
          obtain ⟨b, rfl⟩ : ∃ b, j = .bool b := by
            rcases hout with h | h | ⟨b, h⟩
            · cases h
            · cases h
            · cases h; exact ⟨b, rfl⟩
          clear hout
          have BX := Lib.hid (box_alloc w5 ⟨k9, h9, s9, la9, ll9, lc9, ka9, kl9, kc9, va9, vl9, vc9⟩)
          have V9 := Lib.hid (HV.out _ rfl)
          unfold VC.arr at BX
          simp only [Out.how]
          have lt0 : w.heap.size < w5.heap.size := by omega
          have lt1 : w.heap.size + 1 < w5.heap.size := by omega
          go_wp2_with fail
          go_region_with (first
            | (go_at_call 8; refine (IHX.out _ ?_ ?_).mono ?_; exact (W5.out.alloc W5.out.size _).drew; exact fun h => by cases h
               rintro e w6 ⟨c8, rfl, hv8, hb6⟩
               have bx := BX.out.below (((Below.refl (w5.heap.size + 1) _).drew).trans (hb6.mono (by simp))) (by omega)
               clear p0 p1 p2 p3 p4 p5 q0 q1 q2 q3 q4 q5
               have p0 := bx.c0; have p1 := bx.c1; have p2 := bx.c2; have p3 := bx.c3; have p4 := bx.c4; have p5 := bx.c5
               have W6 := Lib.hid ((W5.out.alloc W5.out.size _).drew.trans (hb6.mono (by have := W5.out.size; simp; omega)))
               have b56 : Below w5.heap.size w5 w6 := ((Below.refl _ _).alloc (Nat.le_refl _) _).drew.trans (hb6.mono (by simp))
               have U9 := Lib.hid (V9.out.go (S' := (· < w6.heap.size)) (fun b hb => b56.block b hb.2) (fun b hb => Nat.lt_of_lt_of_le hb.2 b56.size))
               have U8 := Lib.hid (hv8.mono (S' := (· < w6.heap.size)) (fun b hb => hb.2))
               clear bx hb6 b56 hv8
               obtain ⟨k8, h8, s8, la8, ll8, lc8, ka8, kl8, kc8, va8, vl8, vc8⟩ := c8
               unfold resVal)
            | (go_at_call 7; refine (told_value (.bool b) ⟨k8, h8, s8, la8, ll8, lc8, ka8, kl8, kc8, va8, vl8, vc8⟩ ⟨k9, h9, s9, la9, ll9, lc9, ka9, kl9, kc9, va9, vl9, vc9⟩ _ (· < w6.heap.size) (JOK.bool b) U8.out U9.out (fun _ h => h)).mono ?_
               rintro e w7 ⟨rfl, hb7⟩
               have W7 := Lib.hid (W6.out.trans (hb7.mono W6.out.size))
               clear hb7))
          all_goals
            go_wp2_with fail
            go_ret
            exact ⟨rfl, W7.out⟩
end Go.Proofs.YtkfpaliiecmjoaaGreatDoor
