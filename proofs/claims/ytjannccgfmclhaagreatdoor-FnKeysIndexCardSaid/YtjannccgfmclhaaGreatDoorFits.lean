/- laws.fits at any readable trees. -/
import Derived.Test.YtjannccgfmclhaaGreatDoorFits1
namespace Go.Proofs.YtjannccgfmclhaaGreatDoor
open Go.RowKit

theorem fits_any (ts : List T) (cs : Nat → VC) (N cap B : Nat) {w : World} (hl : ts.length ≤ 400) (hB : B ≤ w.heap.size) (h40 : LB ≤ B) (hT : Tabs w) (hN : N < w.heap.size)
    (ha : ∀ i (_ : i < ts.length), At6 w N (i * 6) (cs i) ∧ TR w B ts[i] (cs i)) :
    Calls Tryz.prog 5 #[.slice (some ⟨N, 0, none⟩) ts.length cap] w fun e w' => ∃ b, e = .returned (.bool b) ∧ (b = true → ∀ i (_ : i < ts.length), Good ts[i] ∧ ts[i].n ≤ 400) ∧ Below w.heap.size w w' := by
  have HA := Lib.hid ha; have HT := Lib.hid hT
  clear ha hT
  go_enter Tryz.func5, Tryz.ntmps5
  go_wp2_with fail
  go_loopw [7] (fun i wr => ∃ m : Nat, i = .int .i64 m ∧ m ≤ ts.length ∧ (∀ i (_ : i < ts.length), i < m → Good ts[i] ∧ ts[i].n ≤ 400) ∧ Below w.heap.size w wr) (fun i _ => ts.length - (intOf i).toNat)
  case atStart => exact ⟨0, rfl, Nat.zero_le _, fun i _ h => by omega, Below.refl _ _⟩
  case round =>
    obtain ⟨m, rfl, hm, hgood, hbw⟩ := hrel
    have BW := Lib.hid hbw; have GD := Lib.hid hgood
    clear hgood
    by_cases hlt : m < ts.length
    · obtain ⟨h1, h2⟩ := HA.out m hlt
      have c1 := h1.below hbw hN
      have g0 := c1.c0; have g1 := c1.c1; have g2 := c1.c2; have g3 := c1.c3; have g4 := c1.c4; have g5 := c1.c5
      have ba : Below B w (wr.alloc (.cells (cs m).arr 26)) := (hbw.mono hB).alloc (by have := hbw.size; omega) _
      have F := Lib.hid (Fit_any (h2.go ba (Nat.le_refl _)) (by have := hbw.size; simp; omega) h40 (HT.out.below ba h40))
      unfold VC.val VC.arr at F
      clear h1 h2 c1 hbw ba
      generalize cs m = x at *
      go_wp2_with fail
      refine F.out.mono ?_
      rintro e w2 ⟨b, rfl, hi, hb2⟩
      have B2 := Lib.hid ((BW.out.alloc BW.out.size _).trans (hb2.mono (by have := BW.out.size; simp; omega)))
      have HI := Lib.hid hi
      clear hb2 hi g0 g1 g2 g3 g4 g5
      cases b
      · go_wp2_with fail
        go_ret
        exact ⟨false, rfl, (fun h => by cases h), B2.out⟩
      · go_wp2_with fail
        go_roundw
        case rel => exact ⟨m + 1, by go_num, by omega, fun i hi him => by
          rcases Nat.lt_or_ge i m with h | h
          · exact GD.out i hi h
          · obtain rfl : i = m := by omega
            exact HI.out trivial, B2.out⟩
        case measure => simp [intOf]; omega
    · clear hbw
      go_wp2_with fail
      go_ret
      exact ⟨true, rfl, fun _ i hi => GD.out i hi (by omega), BW.out⟩
end Go.Proofs.YtjannccgfmclhaaGreatDoor
