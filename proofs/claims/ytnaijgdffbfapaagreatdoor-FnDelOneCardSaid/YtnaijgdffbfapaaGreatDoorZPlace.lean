/- spec.place and spec.Has over strictly rising keys. -/
import Derived.Test.YtnaijgdffbfapaaGreatDoorTypes
import Derived.Test.YtnaijgdffbfapaaGreatDoorM12
import Derived.Test.YtnaijgdffbfapaaGreatDoorM11
import Derived.Lib.Strings
import Derived.Deep.QuietTactic
import Derived.BigQuiet
namespace Go.Proofs.YtnaijgdffbfapaaGreatDoor
open Go.RowKit

/-- Every key is below its place's name until one is not: that one is the key, or none is. -/
theorem place_law {ks : List ByteArray} (h : ∀ i (_ : i + 1 < ks.length), Op.bytesLess ks[i].toList ks[i + 1].toList = true) {s : ByteArray} {m : Nat} (hm : m < ks.length)
    (h1 : ∀ x (_ : x < ks.length), x < m → Op.bytesLess ks[x].toList s.toList = true) (h2 : Op.bytesLess ks[m].toList s.toList = false) : s ∈ ks ↔ ks[m] = s := by
  constructor
  · intro hs
    obtain ⟨x, hx, rfl⟩ := List.getElem_of_mem hs
    rcases Nat.lt_trichotomy x m with hlt | rfl | hlt
    · have := h1 x hx hlt; rw [less_irrefl] at this; cases this
    · rfl
    · have := rising h (x - m - 1) m (by omega)
      have e : m + (x - m - 1) + 1 = x := by omega
      simp only [e] at this
      rw [this] at h2; cases h2
  · rintro rfl; exact List.getElem_mem hm
theorem place_law_end {ks : List ByteArray} {s : ByteArray} (h1 : ∀ x (_ : x < ks.length), Op.bytesLess ks[x].toList s.toList = true) : s ∉ ks := by
  intro hs
  obtain ⟨x, hx, rfl⟩ := List.getElem_of_mem hs
  have := h1 x hx; rw [less_irrefl] at this; cases this

theorem drewN_below {B : Nat} {a w : World} (h : Below B a w) (n : Nat) : Below B a (w.drewN n) := h.trans ⟨rfl, rfl, rfl, Nat.le_refl _, fun _ _ => rfl⟩
theorem toList_ne {a b : ByteArray} (h : ¬ a = b) : ¬ a.toList = b.toList := by
  intro h1; rw [Lib.toList_data, Lib.toList_data] at h1; exact h (ByteArray.ext (by simpa using h1))

theorem place_any {S : Nat → Prop} (ks : List ByteArray) (c : VC) (s : ByteArray) {w : World} (hl : ks.length ≤ 400) (hS : ∀ b, S b → b < w.heap.size) (hkl : c.kl = ks.length)
    (ha : ∀ i (_ : i < ks.length), ∃ b1 o, c.ka = some ⟨b1, o, none⟩ ∧ S b1 ∧ w.cell? ⟨b1, o + i, none⟩ = some (.string ks[i]))
    (hup : ∀ i (_ : i + 1 < ks.length), Op.bytesLess ks[i].toList ks[i + 1].toList = true) :
    Calls Tryz.prog 21 #[c.val, .string s] w fun e w' => ∃ n : Nat, e = .returned (.tuple #[.int .i64 n, .bool (among s ks)]) ∧ (n ≤ ks.length ∧ (∀ x (_ : x < ks.length), x < n → Op.bytesLess ks[x].toList s.toList = true) ∧ ∀ h : n < ks.length, Op.bytesLess ks[n].toList s.toList = false) ∧ Below w.heap.size w w' := by
  have B0 := box_alloc w c
  have hb0 : Below w.heap.size w (w.alloc (.cells c.arr 26)) := (Below.refl _ _).alloc (Nat.le_refl _) _
  obtain ⟨k0, h0, s0, la, ll, lc, ka, kl, kc, va, vl, vc⟩ := c
  simp only at hkl ha
  subst hkl
  have E0 := Lib.hid B0; have HB0 := Lib.hid hb0
  have HA := Lib.hid ha; have HS := Lib.hid hS; have UP := Lib.hid hup
  clear ha hS hup B0 hb0
  unfold VC.val
  unfold VC.arr at *
  go_enter Tryz.func21, Tryz.ntmps21
  go_wp2_with fail
  go_loopw [6] (fun i wr => ∃ m : Nat, i = .int .i64 m ∧ m ≤ ks.length ∧ (∀ x (_ : x < ks.length), x < m → Op.bytesLess ks[x].toList s.toList = true) ∧ Below (w.heap.size + 1) (w.alloc (.cells #[.int .i64 k0, .int .i64 h0, .string s0, .slice la ll lc, .slice ka ks.length kc, .slice va vl vc] 26)) wr) (fun i _ => ks.length - (intOf i).toNat)
  case atStart => exact ⟨0, rfl, Nat.zero_le _, fun x _ hx => by omega, Below.refl _ _⟩
  case round =>
    obtain ⟨m, rfl, hm, hle, hbw⟩ := hrel
    have e4 := (E0.out.below hbw (by omega)).c4
    have BW := Lib.hid hbw; have LE := Lib.hid hle
    by_cases hlt : m < ks.length
    · obtain ⟨b1, o1, h1, h2, h3⟩ := HA.out m hlt
      subst h1
      obtain ⟨key, hs⟩ : ∃ key, key = ks[m] := ⟨_, rfl⟩
      rw [← hs] at h3
      have hf := HS.out _ h2
      have c1 := (hbw.cell (p := ⟨b1, o1 + m, none⟩) (by simp; omega)).trans ((HB0.out.cell (p := ⟨b1, o1 + m, none⟩) hf).trans h3)
      have KS := Lib.hid hs
      clear hle h2 h3 hs hbw hf
      cases hless : Op.bytesLess key.toList s.toList with
      | true =>
        go_wp2_with fail
        go_roundw
        case rel => exact ⟨m + 1, by go_num, by omega, fun x hx hxm => by
          rcases Nat.lt_or_ge x m with h | h
          · exact LE.out x hx h
          · obtain rfl : x = m := by omega
            rw [← KS.out]; exact hless, BW.out⟩
        case measure => simp [intOf]; omega
      | false =>
        go_wp2_with fail
        have hi : (m : Int) < (ks.length : Int) := by omega
        by_cases hk : key = s
        · go_quiet (fail)
          go_wp2_with fail
          go_ret2
          have hm1 : s ∈ ks := by rw [← hk, KS.out]; exact List.getElem_mem hlt
          exact ⟨m, by simp [among_true hm1, hk], ⟨hm, LE.out, fun _ => by rw [← KS.out]; exact hless⟩, drewN_below (HB0.out.trans (BW.out.mono (by omega))) _⟩
        · go_quiet (fail)
          go_wp2_with fail
          go_ret2
          have hm1 : s ∉ ks := fun hs => hk (KS.out.trans ((place_law UP.out hlt LE.out (by rw [← KS.out]; exact hless)).1 hs))
          have hk2 := toList_ne hk
          exact ⟨m, by simp [among_false hm1, hk2], ⟨hm, LE.out, fun _ => by rw [← KS.out]; exact hless⟩, drewN_below (HB0.out.trans (BW.out.mono (by omega))) _⟩
    · clear hle hbw
      go_wp2_with fail
      have hd : decide ((m : Int) < (ks.length : Int)) = false := by simp; omega
      go_quiet (fail)
      go_wp2_with fail
      go_ret2
      have hm1 : s ∉ ks := place_law_end fun x hx => LE.out x hx (by omega)
      exact ⟨m, by simp [among_false hm1], ⟨hm, LE.out, fun h => absurd h hlt⟩, drewN_below (HB0.out.trans (BW.out.mono (by omega))) _⟩

theorem SHas_any {S : Nat → Prop} (m : List (ByteArray × J)) (c : VC) (s : ByteArray) {w : World} (hV : VR w S (.obj m) c) (hj : JOK (.obj m)) (hS : ∀ b, S b → b < w.heap.size) :
    Calls Tryz.prog 10 #[c.val, .string s] w fun e w' => e = .returned (.bool (among s (m.map fun x : ByteArray × J => x.1))) ∧ Below w.heap.size w w' := by
  have hb0 : Below w.heap.size w (w.alloc (.cells c.arr 26)) := (Below.refl _ _).alloc (Nat.le_refl _) _
  have hV1 := hV.go (w' := w.alloc (.cells c.arr 26)) (S' := S) (fun b h => hb0.block b (hS b h)) (fun _ h => h)
  have hh := hV.head
  rw [VR] at hV1
  rw [JOK] at hj
  have P := Lib.hid (place_any (S := S) (m.map fun x : ByteArray × J => x.1) c s (w := w.alloc (.cells c.arr 26)) (by simp; exact hj.2.2.2.1) (fun b h => by have := hS b h; simp; omega) (by have := hh.kl; simpa [J.ents] using this)
    (fun i hi => by
      have hi' : i < m.length := by simpa using hi
      obtain ⟨b, o, h1, h2, h3⟩ := hV1.2.2.1 i hi'
      exact ⟨b, o, h1, h2, by simpa [J.ents] using h3⟩)
    (fun i hi => by simpa [J.ents] using hj.2.2.2.2.2.2.1 i (by simpa [J.ents] using hi)))
  have HB0 := Lib.hid hb0
  clear hb0 hV1 hh hj hV hS
  obtain ⟨k0, h0, s0, la, ll, lc, ka, kl, kc, va, vl, vc⟩ := c
  unfold VC.val VC.arr at *
  go_enter Tryz.func10, Tryz.ntmps10
  go_wp2_with fail
  refine P.out.mono ?_
  rintro e w1 ⟨n, rfl, _, hb1⟩
  have HB1 := Lib.hid (HB0.out.trans (hb1.mono HB0.out.size))
  clear hb1
  go_wp2_with fail
  go_ret
  exact ⟨rfl, HB1.out⟩
end Go.Proofs.YtnaijgdffbfapaaGreatDoor
