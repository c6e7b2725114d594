/- spec.Cmp's parts at equal values: zero. -/
import Derived.Test.YtjannccgfmclhaaGreatDoorMapGo
namespace Go.Proofs.YtjannccgfmclhaaGreatDoor
open Go.RowKit

theorem less_irrefl (s : ByteArray) : Op.bytesLess s.toList s.toList = false := by
  rw [bytesLess_eq, decide_eq_false_iff_not]; exact List.lt_irrefl _

theorem sign_zero (w : World) : Calls Tryz.prog 63 #[.int .i64 0] w fun e w' => e = .returned (.int .i64 0) ∧ w = w' := by
  go_enter Tryz.func63, Tryz.ntmps63
  go_wp2_with fail
  go_ret
  exact ⟨rfl, rfl⟩

theorem texts_refl (s : ByteArray) (w : World) : Calls Tryz.prog 64 #[.string s, .string s] w fun e w' => e = .returned (.int .i64 0) ∧ w = w' := by
  have h := less_irrefl s
  go_enter Tryz.func64, Tryz.ntmps64
  go_wp2_with fail
  go_ret
  exact ⟨rfl, rfl⟩

/-- What a comparison of equal values leaves. -/
def ZeroPost (w : World) (e : Ending) (w' : World) : Prop := e = .returned (.int .i64 0) ∧ Below w.heap.size w w'

theorem keys_refl {S : Nat → Prop} (ks : List ByteArray) {a b : Option Addr} {ca cb : Nat} {w : World} (hl : ks.length ≤ 400) (hS : ∀ b, S b → b < w.heap.size)
    (ha : ∀ i (_ : i < ks.length), ∃ b1 o, a = some ⟨b1, o, none⟩ ∧ S b1 ∧ w.cell? ⟨b1, o + i, none⟩ = some (.string ks[i]))
    (hb : ∀ i (_ : i < ks.length), ∃ b1 o, b = some ⟨b1, o, none⟩ ∧ S b1 ∧ w.cell? ⟨b1, o + i, none⟩ = some (.string ks[i])) :
    Calls Tryz.prog 66 #[.slice a ks.length ca, .slice b ks.length cb] w (ZeroPost w) := by
  have HA := Lib.hid ha; have HB := Lib.hid hb; have HS := Lib.hid hS
  clear ha hb hS
  go_enter Tryz.func66, Tryz.ntmps66
  go_wp2_with fail
  go_loopw [5] (fun i wr => ∃ m : Nat, i = .int .i64 m ∧ m ≤ ks.length ∧ Below w.heap.size w wr) (fun i _ => ks.length - (intOf i).toNat)
  case atStart => exact ⟨0, rfl, Nat.zero_le _, Below.refl _ _⟩
  case round =>
    obtain ⟨m, rfl, hm, hbw⟩ := hrel
    have BW := Lib.hid hbw
    by_cases hlt : m < ks.length
    · obtain ⟨b1, o1, h1, h2, h3⟩ := HA.out m hlt
      obtain ⟨b2, o2, h4, h5, h6⟩ := HB.out m hlt
      subst h1; subst h4
      obtain ⟨s, hs⟩ : ∃ s, s = ks[m] := ⟨_, rfl⟩
      rw [← hs] at h3 h6
      have c1 := (hbw.cell (p := ⟨b1, o1 + m, none⟩) (HS.out _ h2)).trans h3
      have c2 := (hbw.cell (p := ⟨b2, o2 + m, none⟩) (HS.out _ h5)).trans h6
      clear hs h2 h3 h5 h6 hbw
      go_wp2_with fail
      refine wp_region_tail 8 (by kernel_rfl) (by kernel_rfl) ?_
      simp only [List.take_succ_cons, List.take_zero, List.drop_succ_cons, List.drop_zero]
      repeat (go_big_quiet_step (fail))
      refine wpQuiet_nil ?_
      go_wp2_with (go_at_call 64; refine (texts_refl _ _).mono ?_; rintro e w' ⟨rfl, rfl⟩)
      go_roundw
      case rel => exact ⟨m + 1, by go_num, by omega, BW.out.drew⟩
      case measure => simp [intOf]; omega
    · clear hbw
      go_wp2_with fail
      go_ret
      exact ⟨by simp, BW.out⟩

theorem lists_refl {S : Nat → Prop} (l : List J) {a b : Option Addr} {ca cb : Nat} {w : World} (hl : l.length ≤ 400) (hS : ∀ b, S b → b < w.heap.size)
    (ha : ∀ i (_ : i < l.length), ∃ b1 o x, a = some ⟨b1, o, none⟩ ∧ S b1 ∧ At6 w b1 (o + i * 6) x ∧ VR w S l[i] x)
    (hb : ∀ i (_ : i < l.length), ∃ b1 o x, b = some ⟨b1, o, none⟩ ∧ S b1 ∧ At6 w b1 (o + i * 6) x ∧ VR w S l[i] x)
    (ih : ∀ i (_ : i < l.length) (x y : VC) (w' : World), VR w' S l[i] x → VR w' S l[i] y → (∀ b, S b → b < w'.heap.size) → Calls Tryz.prog 47 #[x.val, y.val] w' (ZeroPost w')) :
    Calls Tryz.prog 65 #[.slice a l.length ca, .slice b l.length cb] w (ZeroPost w) := by
  have HA := Lib.hid ha; have HB := Lib.hid hb; have HS := Lib.hid hS; have HI := Lib.hid ih
  clear ha hb hS ih
  go_enter Tryz.func65, Tryz.ntmps65
  go_wp2_with fail
  go_loopw [5] (fun i wr => ∃ m : Nat, i = .int .i64 m ∧ m ≤ l.length ∧ Below w.heap.size w wr) (fun i _ => l.length - (intOf i).toNat)
  case atStart => exact ⟨0, rfl, Nat.zero_le _, Below.refl _ _⟩
  case round =>
    obtain ⟨m, rfl, hm, hbw⟩ := hrel
    have BW := Lib.hid hbw
    by_cases hlt : m < l.length
    · obtain ⟨b1, o1, x, h1, h2, h3, h3'⟩ := HA.out m hlt
      obtain ⟨b2, o2, y, h4, h5, h6, h6'⟩ := HB.out m hlt
      subst h1; subst h4
      have c1 := h3.below hbw (HS.out _ h2)
      have c2 := h6.below hbw (HS.out _ h5)
      have g0 := c1.c0; have g1 := c1.c1; have g2 := c1.c2; have g3 := c1.c3; have g4 := c1.c4; have g5 := c1.c5
      have e0 := c2.c0; have e1 := c2.c1; have e2 := c2.c2; have e3 := c2.c3; have e4 := c2.c4; have e5 := c2.c5
      have sm : Same S w wr.drew := fun b hb => hbw.block b (HS.out b hb)
      have IH := HI.out m hlt x y wr.drew (h3'.go sm (fun _ h => h)) (h6'.go sm (fun _ h => h)) (fun b hb => by have := HS.out b hb; have := hbw.size; simp; omega)
      unfold VC.val VC.arr at IH
      have I := Lib.hid IH
      clear IH sm c1 c2 h2 h3 h3' h5 h6 h6' hbw
      go_wp2_with fail
      refine wp_region_tail 8 (by kernel_rfl) (by kernel_rfl) ?_
      simp only [List.take_succ_cons, List.take_zero, List.drop_succ_cons, List.drop_zero]
      repeat (go_big_quiet_step (fail))
      refine wpQuiet_nil ?_
      go_wp2_with fail
      refine I.out.mono ?_
      rintro e w2 ⟨rfl, hb2⟩
      have B2 := Lib.hid (BW.out.drew.trans (hb2.mono (by have := BW.out.size; simpa using this)))
      clear hb2 g0 g1 g2 g3 g4 g5 e0 e1 e2 e3 e4 e5
      go_wp2_with fail
      go_roundw
      case rel => exact ⟨m + 1, by go_num, by omega, B2.out⟩
      case measure => simp [intOf]; omega
    · clear hbw
      go_wp2_with fail
      go_ret
      exact ⟨by simp, BW.out⟩
end Go.Proofs.YtjannccgfmclhaaGreatDoor
