/- A part of the proof. -/
import Derived.Test.YtbdciilkapgfjaaGreatDoorM28
import Derived.Laws.RangeAny
import Derived.Laws.RangeString
namespace Go.Proofs.YtbdciilkapgfjaaGreatDoor
open Go.RowKit Go.Shelf

/-- The world with a string's iterator further on. -/
def World.stepIter (w : World) (k : Nat) (s : ByteArray) (pos : Nat) : World := { w with heap := w.heap.setIfInBounds k (.stringIter s pos) }
theorem next_at {w : World} {k pos : Nat} {s : ByteArray} (hk : w.heap[k]? = some (.stringIter s pos)) (h : pos < s.size) (ha : (s[pos]'h).toNat < 128) (ty : TypeId) :
    (Instr.next (.pointer (some ⟨k, 0, none⟩)) true ty).run Tryz.prog w = .ok (.tuple #[.bool true, .int .i64 pos, .int .i32 (s[pos]'h).toNat]) (World.stepIter w k s (pos + 1)) := by
  simp only [Instr.next, getObj, setObj, Sem.run_bind, Sem.run, hk, Result.andThen, h, if_true, decode_ascii s pos h ha]
  simp [goInt, World.stepIter]
theorem next_end {w : World} {k pos : Nat} {s : ByteArray} (hk : w.heap[k]? = some (.stringIter s pos)) (h : ¬ pos < s.size) (ty : TypeId) :
    (Instr.next (.pointer (some ⟨k, 0, none⟩)) true ty).run Tryz.prog w = .ok (.tuple #[.bool false]) w := by
  simp [Instr.next, getObj, Sem.run, hk, h]

theorem bytesIter_below (w : World) (s : ByteArray) (p : Nat) : Below w.heap.size w (w.iter s p) := (Below.refl _ _).alloc (Nat.le_refl _) _
theorem iterPos_iter (w : World) (s : ByteArray) (p : Nat) : (w.iter s p).iterPos w.heap.size = p := by unfold World.iterPos; rw [World.iter_heap]
theorem iter_step (w : World) (s : ByteArray) (p q : Nat) : World.stepIter (w.iter s p) w.heap.size s q = w.iter s q := World.iter_set w s p q
theorem nextD0 (w : World) (ty : TypeId) : (Instr.next (.pointer (some ⟨w.heap.size, 0, none⟩)) true ty).run Tryz.prog (w.iter ⟨#[46, 101, 69]⟩ 0) = .ok (.tuple #[.bool true, .int .i64 0, .int .i32 46]) (w.iter ⟨#[46, 101, 69]⟩ 1) := by
  have h := next_at (w := w.iter ⟨#[46, 101, 69]⟩ 0) (World.iter_heap w ⟨#[46, 101, 69]⟩ 0) (by decide) (by decide) ty
  rw [iter_step] at h
  exact h
theorem nextD1 (w : World) (ty : TypeId) : (Instr.next (.pointer (some ⟨w.heap.size, 0, none⟩)) true ty).run Tryz.prog (w.iter ⟨#[46, 101, 69]⟩ 1) = .ok (.tuple #[.bool true, .int .i64 1, .int .i32 101]) (w.iter ⟨#[46, 101, 69]⟩ 2) := by
  have h := next_at (w := w.iter ⟨#[46, 101, 69]⟩ 1) (World.iter_heap w ⟨#[46, 101, 69]⟩ 1) (by decide) (by decide) ty
  rw [iter_step] at h
  exact h
theorem nextD2 (w : World) (ty : TypeId) : (Instr.next (.pointer (some ⟨w.heap.size, 0, none⟩)) true ty).run Tryz.prog (w.iter ⟨#[46, 101, 69]⟩ 2) = .ok (.tuple #[.bool true, .int .i64 2, .int .i32 69]) (w.iter ⟨#[46, 101, 69]⟩ 3) := by
  have h := next_at (w := w.iter ⟨#[46, 101, 69]⟩ 2) (World.iter_heap w ⟨#[46, 101, 69]⟩ 2) (by decide) (by decide) ty
  rw [iter_step] at h
  exact h
theorem nextD3 (w : World) (ty : TypeId) : (Instr.next (.pointer (some ⟨w.heap.size, 0, none⟩)) true ty).run Tryz.prog (w.iter ⟨#[46, 101, 69]⟩ 3) = .ok (.tuple #[.bool false]) (w.iter ⟨#[46, 101, 69]⟩ 3) :=
  next_end (World.iter_heap w ⟨#[46, 101, 69]⟩ 3) (by decide) ty

set_option maxRecDepth 100000 in
set_option maxHeartbeats 1000000 in
theorem zzIndexAny_dot {s : ByteArray} {q : Nat} {w : World} (hq : q < s.size) (hd : (s[q]'hq).toNat = 46) (hb : ∀ o (h : o < q), (s[o]'(by omega)).toNat = 45 ∨ (48 ≤ (s[o]'(by omega)).toNat ∧ (s[o]'(by omega)).toNat ≤ 57)) :
    Calls Tryz.prog 62 #[.string s, .string ⟨#[46, 101, 69]⟩] w fun e w' => e = .returned (.int .i64 (q : Int)) ∧ Below w.heap.size w w' := by
  have HB := Lib.hid hb; have HDD := Lib.hid hd
  clear hb hd
  go_enter Tryz.func62, Tryz.ntmps62
  go_wp2_with fail
  go_loopw [] (fun wr => ∃ o : Nat, o ≤ q ∧ wr.heap[w.heap.size]? = some (.stringIter s o) ∧ Below w.heap.size w wr) (fun wr => s.size - wr.iterPos w.heap.size)
  case atStart => exact ⟨0, Nat.zero_le _, by rw [World.iter_heap], (Below.refl _ _).alloc (Nat.le_refl _) _⟩
  case round =>
    obtain ⟨o, ho, hit, hlow⟩ := hrel
    have hos : o < s.size := by omega
    obtain ⟨c, hc⟩ : ∃ c, (s[o]'hos).toNat = c := ⟨_, rfl⟩
    have hcc : (o = q ∧ c = 46) ∨ (o < q ∧ (c = 45 ∨ (48 ≤ c ∧ c ≤ 57))) := by
      rcases Nat.lt_or_ge o q with e | e
      · exact Or.inr ⟨e, by have := HB.out o e; rw [hc] at this; exact this⟩
      · obtain rfl : o = q := by omega
        exact Or.inl ⟨rfl, by rw [← hc]; exact HDD.out⟩
    have hca : c < 128 := by omega
    have hnx : ∀ ty, (Instr.next (.pointer (some ⟨w.heap.size, 0, none⟩)) true ty).run Tryz.prog wr = .ok (.tuple #[.bool true, .int .i64 o, .int .i32 (c : Int)]) (World.stepIter wr w.heap.size s (o + 1)) := fun ty => by
      have := next_at hit hos (by omega) ty
      rw [hc] at this
      exact this
    have hlt : w.heap.size < wr.heap.size := (Array.getElem?_eq_some_iff.1 hit).1
    have POS : Hid (wr.iterPos w.heap.size = o) := Lib.hid (by unfold World.iterPos; rw [hit])
    obtain ⟨w2, hw2⟩ : ∃ w2, w2 = World.stepIter wr w.heap.size s (o + 1) := ⟨_, rfl⟩
    rw [← hw2] at hnx
    have IT2 : Hid (w2.heap[w.heap.size]? = some (.stringIter s (o + 1))) := Lib.hid (by rw [hw2]; unfold World.stepIter; simp [hlt])
    have LOW2 : Hid (Below w.heap.size w w2) := Lib.hid (hlow.trans (by rw [hw2]; exact ⟨rfl, rfl, rfl, by simp [World.stepIter], fun b hb => by simp [World.stepIter, show w.heap.size ≠ b by omega]⟩))
    have HCC := Lib.hid hcc; have HOS := Lib.hid hos
    clear hit hlow ho hc hw2 hcc hos hlt
    go_wp2_with fail
    go_loopw [] (fun wi => ∃ j : Nat, j ≤ 3 ∧ wi = w2.iter ⟨#[46, 101, 69]⟩ j ∧ (j = 0 ∨ o < q)) (fun wi => 3 - wi.iterPos w2.heap.size)
    case atStart => exact ⟨0, by omega, rfl, Or.inl rfl⟩
    case round =>
      obtain ⟨j, hj, rfl, hjo⟩ := hrel
      have n0 := nextD0 w2; have n1 := nextD1 w2; have n2 := nextD2 w2; have n3 := nextD3 w2
      have hj4 : j = 0 ∨ j = 1 ∨ j = 2 ∨ j = 3 := by omega
      rcases HCC.out with ⟨h1, h2⟩ | ⟨h1, h2⟩
      · obtain rfl : j = 0 := by omega
        subst h2
        have HQ := Lib.hid h1
        clear hj hjo hj4 h1
        go_wp2_with fail
        go_ret
        refine ⟨by rw [← HQ.out]; rfl, LOW2.out.trans ((bytesIter_below w2 _ _).mono LOW2.out.size)⟩
      · have e1 : ((c : Int) == 46) = false := by simp; omega
        have e2 : ((c : Int) == 101) = false := by simp; omega
        have e3 : ((c : Int) == 69) = false := by simp; omega
        have H1 := Lib.hid h1
        clear hjo h2 h1 hj
        rcases hj4 with rfl | rfl | rfl | rfl
        · clear n1 n2 n3
          go_wp2_with fail
          go_roundw
          case rel => exact ⟨1, by omega, rfl, Or.inr H1.out⟩
          case measure => rw [iterPos_iter, iterPos_iter]; omega
        · clear n0 n2 n3
          go_wp2_with fail
          go_roundw
          case rel => exact ⟨2, by omega, rfl, Or.inr H1.out⟩
          case measure => rw [iterPos_iter, iterPos_iter]; omega
        · clear n0 n1 n3
          go_wp2_with fail
          go_roundw
          case rel => exact ⟨3, by omega, rfl, Or.inr H1.out⟩
          case measure => rw [iterPos_iter, iterPos_iter]; omega
        · clear n0 n1 n2
          go_wp2_with fail
          go_roundw
          case rel =>
            refine ⟨o + 1, H1.out, ?_, LOW2.out.trans ((bytesIter_below w2 _ _).mono LOW2.out.size)⟩
            exact ((bytesIter_below w2 ⟨#[46, 101, 69]⟩ 3).block w.heap.size ((Array.getElem?_eq_some_iff.1 IT2.out).1)).trans IT2.out
          case measure =>
            have e : (w2.iter ⟨#[46, 101, 69]⟩ 3).iterPos w.heap.size = o + 1 := by
              unfold World.iterPos
              rw [((bytesIter_below w2 ⟨#[46, 101, 69]⟩ 3).block w.heap.size ((Array.getElem?_eq_some_iff.1 IT2.out).1)).trans IT2.out]
            rw [e, POS.out]
            have := HOS.out
            omega

set_option maxRecDepth 100000 in
theorem zzContainsAny_dot {s : ByteArray} {q : Nat} {w : World} (hq : q < s.size) (hq2 : q < 1000000) (hd : (s[q]'hq).toNat = 46) (hb : ∀ o (h : o < q), (s[o]'(by omega)).toNat = 45 ∨ (48 ≤ (s[o]'(by omega)).toNat ∧ (s[o]'(by omega)).toNat ≤ 57)) :
    Calls Tryz.prog 46 #[.string s, .string ⟨#[46, 101, 69]⟩] w fun e w' => e = .returned (.bool true) ∧ Below w.heap.size w w' := by
  have IX := Lib.hid (zzIndexAny_dot (w := w) hq hd hb)
  clear hb hd hq
  go_enter Tryz.func46, Tryz.ntmps46
  go_wp2_with fail
  refine IX.out.mono ?_
  rintro e w' ⟨rfl, hb⟩
  have B := Lib.hid hb
  have h0 : (0 : Int) ≤ (q : Int) := by omega
  clear hb
  go_wp2_with fail
  go_ret
  exact ⟨rfl, B.out⟩
end Go.Proofs.YtbdciilkapgfjaaGreatDoor
