/- laws.zzFits1 and zzFits2 at any readable trees. -/
import Derived.Test.YtjannccgfmclhaaGreatDoorFit
namespace Go.Proofs.YtjannccgfmclhaaGreatDoor
open Go.RowKit

/-- Some answer, and nothing below is touched. -/
def SomeBool (w : World) (e : Ending) (w' : World) : Prop := ∃ b, e = .returned (.bool b) ∧ Below w.heap.size w w'

theorem zzFits2_any (ks : List ByteArray) (a : Option Addr) (cap : Nat) {w : World} (hl : ks.length ≤ 140737488351232)
    (ha : ∀ i (_ : i < ks.length), ∃ b o, a = some ⟨b, o, none⟩ ∧ b < w.heap.size ∧ w.cell? ⟨b, o + i, none⟩ = some (.string ks[i]) ∧ ks[i].size ≤ 140737488351232) :
    Calls Tryz.prog 14 #[.slice a ks.length cap] w (SomeBool w) := by
  have HA := Lib.hid ha
  clear ha
  go_enter Tryz.func14, Tryz.ntmps14
  go_wp2_with fail
  · go_ret
    exact ⟨false, rfl, Below.refl _ _⟩
  · go_loopw [10] (fun i wr => ∃ m : Nat, i = .int .i64 m ∧ m ≤ ks.length ∧ Below w.heap.size w wr) (fun i _ => ks.length - (intOf i).toNat)
    case atStart => exact ⟨0, rfl, Nat.zero_le _, Below.refl _ _⟩
    case round =>
      obtain ⟨m, rfl, hm, hbw⟩ := hrel
      have BW := Lib.hid hbw
      by_cases hlt : m < ks.length
      · obtain ⟨b1, o1, h1, h2, h3, h4⟩ := HA.out m hlt
        subst h1
        generalize ks[m] = s at h3 h4
        have c1 := (hbw.cell (p := ⟨b1, o1 + m, none⟩) h2).trans h3
        clear hbw h2 h3
        go_wp2_with fail
        · go_ret
          exact ⟨false, rfl, BW.out⟩
        · go_roundw
          case rel => exact ⟨m + 1, by go_num, by omega, BW.out⟩
          case measure => simp [intOf]; omega
      · clear hbw
        go_wp2_with fail
        go_ret
        exact ⟨true, rfl, BW.out⟩

theorem zzFits1_any (t : T) (c : VC) {B : Nat} {w : World} (hB : B ≤ w.heap.size) (hR : TR w B t c) :
    Calls Tryz.prog 4 #[c.val] w (SomeBool w) := by
  have hb0 : Below w.heap.size w (w.alloc (.cells c.arr 26)) := (Below.refl _ _).alloc (Nat.le_refl _) _
  have hR1 := hR.go (hb0.mono hB) (Nat.le_refl _)
  rw [TR] at hR1
  have hh := hR1.1
  have bx := Lib.hid (box_alloc w c)
  have Z := Lib.hid (zzFits2_any t.ks c.ka c.kc (w := w.alloc (.cells c.arr 26)) hh.bk (fun i hi => by
    obtain ⟨b, o, h1, h2, h3, h4⟩ := hR1.2.2.1 i hi
    exact ⟨b, o, h1, by simp; omega, h3, h4⟩))
  have HB0 := Lib.hid hb0
  have hs : c.s.size ≤ 140737488351232 := by rw [hh.s]; exact hh.bs
  have hll : c.ll ≤ 140737488351232 := by rw [hh.ll]; exact hh.bl
  have hvl : c.vl ≤ 140737488351232 := by rw [hh.vl]; exact hh.bv
  rw [← hh.kl] at Z
  clear hb0 hR hR1 hh
  obtain ⟨k0, h0, s0, la, ll, lc, ka, kl, kc, va, vl, vc⟩ := c
  simp only at hs hll hvl
  unfold VC.val
  unfold VC.arr at *
  go_enter Tryz.func4, Tryz.ntmps4
  go_wp2_with fail
  · go_ret
    exact ⟨false, rfl, HB0.out⟩
  · go_ret
    exact ⟨false, rfl, HB0.out⟩
  · refine Z.out.mono ?_
    rintro e w1 ⟨b, rfl, hb1⟩
    have W1 := Lib.hid (HB0.out.trans (hb1.mono HB0.out.size))
    have q5 := (bx.out.below hb1 (by simp)).c5
    clear hb1
    cases b
    · go_wp2_with fail
      go_ret
      exact ⟨_, rfl, W1.out⟩
    · go_wp2_with fail
      all_goals
        go_ret
        exact ⟨_, rfl, W1.out⟩
end Go.Proofs.YtjannccgfmclhaaGreatDoor
