/- A part of the proof. A part of the proof. -/
import Derived.Test.YtbdciilkapgfjaaGreatDoorZRow
import Derived.LoopTactic
import Derived.Deep.QuietTactic
import Derived.BigQuiet
import Derived.RegionTactic
import Derived.WalkKit
namespace Go.Proofs.YtbdciilkapgfjaaGreatDoor
open Go.RowKit

/-- A lexer over the text s, at place o. -/
structure LexAt (w : World) (N : Nat) (s : ByteArray) (o : Nat) : Prop where
  c0 : w.cell? ⟨N, 0, none⟩ = some (.string s)
  c1 : w.cell? ⟨N, 1, none⟩ = some (.int .i64 (o : Int))
  f1 : w.frozen? ⟨N, 1, none⟩ = false
  lt : N < w.heap.size
theorem LexAt.below {w w' : World} {N o B : Nat} {s : ByteArray} (h : LexAt w N s o) (hb : Below B w w') (hN : N < B) : LexAt w' N s o :=
  ⟨(hb.cell (p := ⟨N, 0, none⟩) hN).trans h.c0, (hb.cell (p := ⟨N, 1, none⟩) hN).trans h.c1, (hb.frozen (p := ⟨N, 1, none⟩) hN).trans h.f1, Nat.lt_of_lt_of_le h.lt hb.size⟩

/-- The byte at a place, 0 at the end. -/
def byteAt (s : ByteArray) (o : Nat) : Nat := if h : o < s.size then (s[o]).toNat else 0

set_option maxRecDepth 100000 in
theorem peek_any {N o : Nat} {s : ByteArray} {w : World} (h : LexAt w N s o) (ho : o ≤ s.size) :
    Calls Tryz.prog 34 #[.pointer (some ⟨N, 0, none⟩)] w fun e w' => e = .returned (.int .u8 (byteAt s o : Int)) ∧ Below w.heap.size w w' := by
  have c0 := h.c0; have c1 := h.c1
  have H := Lib.hid h
  clear h
  by_cases hlt : o < s.size
  · have hne : ((s.size : Int) == (o : Int)) = false := by simp; omega
    have hne' : ¬ s.size = o := by omega
    have B : Hid ((byteAt s o : Int) = ((s[o]).toNat : Int)) := Lib.hid (by unfold byteAt; rw [dif_pos hlt])
    go_enter Tryz.func34, Tryz.ntmps34
    go_wp2_with fail
    go_quiet (fail)
    go_wp2_with fail
    go_quiet (fail)
    go_wp2_with fail
    go_ret
    exact ⟨by rw [B.out]; rfl, ⟨rfl, rfl, rfl, Nat.le_refl _, fun _ _ => rfl⟩⟩
  · obtain rfl : o = s.size := by omega
    have B : Hid ((byteAt s s.size : Int) = 0) := Lib.hid (by unfold byteAt; simp)
    go_enter Tryz.func34, Tryz.ntmps34
    go_wp2_with fail
    go_quiet (fail)
    go_wp2_with fail
    go_ret
    exact ⟨by rw [B.out]; rfl, ⟨rfl, rfl, rfl, Nat.le_refl _, fun _ _ => rfl⟩⟩

def isDig (c : Nat) : Bool := decide (48 ≤ c) && decide (c ≤ 57)
theorem isNumber_any (c : Nat) (w : World) : Calls Tryz.prog 35 #[.int .u8 (c : Int)] w fun e w' => e = .returned (.bool (isDig c)) ∧ w = w' := by
  unfold isDig
  by_cases h1 : 48 ≤ c
  · have d1 : decide ((48 : Int) ≤ (c : Int)) = true := decide_eq_true (by omega)
    have n1 : decide (48 ≤ c) = true := decide_eq_true h1
    by_cases h2 : c ≤ 57
    · have d2 : decide ((c : Int) ≤ 57) = true := decide_eq_true (by omega)
      have n2 : decide (c ≤ 57) = true := decide_eq_true h2
      rw [n1, n2]
      go_enter Tryz.func35, Tryz.ntmps35
      go_wp2_with fail
      go_ret
      exact ⟨rfl, rfl⟩
    · have d2 : decide ((c : Int) ≤ 57) = false := decide_eq_false (by omega)
      have n2 : decide (c ≤ 57) = false := decide_eq_false h2
      rw [n1, n2]
      go_enter Tryz.func35, Tryz.ntmps35
      go_wp2_with fail
      go_ret
      exact ⟨rfl, rfl⟩
  · have d1 : decide ((48 : Int) ≤ (c : Int)) = false := decide_eq_false (by omega)
    have n1 : decide (48 ≤ c) = false := decide_eq_false h1
    rw [n1]
    go_enter Tryz.func35, Tryz.ntmps35
    go_wp2_with fail
    go_ret
    exact ⟨rfl, rfl⟩
theorem isIdent_zero (w : World) : Calls Tryz.prog 44 #[.int .u8 0, .bool false] w fun e w' => e = .returned (.bool false) ∧ w = w' := by
  go_enter Tryz.func44, Tryz.ntmps44
  go_wp2_with fail
  go_ret
  exact ⟨rfl, rfl⟩
end Go.Proofs.YtbdciilkapgfjaaGreatDoor

namespace Go.Proofs.YtbdciilkapgfjaaGreatDoor
open Go.RowKit

/-- Digits from p on, to the end or to a point and digits behind it. -/
structure NumT (s : ByteArray) (p q : Nat) : Prop where
  pq : p < q
  le : q ≤ s.size
  d1 : ∀ k, p ≤ k → k < q → isDig (byteAt s k) = true
  dot : q < s.size → byteAt s q = 46
  d2 : ∀ k, q < k → k < s.size → isDig (byteAt s k) = true
  small : s.size ≤ 1000

theorem isNumber_is {c : Nat} {b : Bool} (h : isDig c = b) (w : World) : Calls Tryz.prog 35 #[.int .u8 (c : Int)] w fun e w' => e = .returned (.bool b) ∧ w = w' := h ▸ isNumber_any c w
theorem byteAt_end (s : ByteArray) : byteAt s s.size = 0 := by unfold byteAt; simp

/-- One byte on. -/
theorem LexAt.next {w : World} {N o : Nat} {s : ByteArray} (h : LexAt w N s o) : LexAt (w.setCell ⟨N, 1, none⟩ (.int .i64 ((o : Int) + 1))) N s (o + 1) :=
  ⟨by rw [World.cell?_setCell_other _ _ _ _ (by simp)]; exact h.c0, World.cell?_setCell_same _ _ _ h.c1, by rw [World.frozen?_setCell]; exact h.f1, by simpa using h.lt⟩

theorem grown_low {w w' w'' : World} {N : Nat} (h : w.grownBy w' (some N)) (hb : Below w'.heap.size w' w'') : w.grownBy w'' (some N) :=
  ⟨hb.os.trans h.os, hb.tape.trans h.tape, hb.output.trans h.output, Nat.le_trans h.size hb.size, fun k hk hne => (hb.block k (Nat.lt_of_lt_of_le hk h.size)).trans (h.block k hk hne)⟩
theorem grown_set {w w' : World} {N o : Nat} {v : Value} (h : w.grownBy w' (some N)) : w.grownBy (w'.setCell ⟨N, o, none⟩ v) (some N) :=
  ⟨h.os, h.tape, h.output, by simpa using h.size, fun k hk hne => (Below.heap_setCell _ _ _ _ (fun e => hne (by rw [e]))).trans (h.block k hk hne)⟩

set_option maxRecDepth 100000 in
set_option maxHeartbeats 2000000 in
theorem scan_any {N p q : Nat} {s : ByteArray} {w : World} (h : LexAt w N s p) (hT : NumT s p q) :
    Calls Tryz.prog 36 #[.pointer (some ⟨N, 0, none⟩), .int .i64 0] w fun e w' => e = .returned (.int .i64 (s.size : Int)) ∧ LexAt w' N s s.size ∧ w.grownBy w' (some N) := by
  have HT := Lib.hid hT; have H := Lib.hid h
  clear h
  go_enter Tryz.func36, Tryz.ntmps36
  go_wp2_with fail
  go_loopw [1] (fun st wr => ∃ o : Nat, LexAt wr N s o ∧ w.grownBy wr (some N) ∧ ((st = .int .i64 0 ∧ p ≤ o ∧ o ≤ q) ∨ (st = .int .i64 1 ∧ q < o ∧ o ≤ s.size))) (fun _ wr => s.size - (intOf ((wr.cell? ⟨N, 1, none⟩).getD undef)).toNat)
  case atStart => exact ⟨p, H.out, grown_refl _ _, Or.inl ⟨rfl, Nat.le_refl _, Nat.le_of_lt HT.out.pq⟩⟩
  case round =>
    obtain ⟨o, hL, hG, hst⟩ := hrel
    have HL := Lib.hid hL; have HG := Lib.hid hG
    have hle := hT.le; have hsm := hT.small
    have ho : o ≤ s.size := by rcases hst with h | h <;> omega
    have PK := Lib.hid (peek_any hL ho)
    have hm : (intOf ((wr.cell? ⟨N, 1, none⟩).getD undef)).toNat = o := by rw [hL.c1]; simp [intOf]
    have HM := Lib.hid hm
    clear hL hG hm hT
    by_cases hend : o = s.size
    · subst hend
      rw [byteAt_end] at PK
      rcases hst with ⟨rfl, _, _⟩ | ⟨rfl, _, _⟩
      · go_wp2_with fail
        refine PK.out.mono ?_
        rintro e w1 ⟨rfl, hb1⟩
        have L1 := HL.out.below hb1 HL.out.lt
        have c0 := L1.c0; have c1 := L1.c1; have f1 := L1.f1
        have HL1 := Lib.hid L1
        have G1 := Lib.hid (grown_low HG.out hb1)
        clear hb1 L1
        go_wp2_with fail
        refine (isNumber_is (c := 0) (b := false) (by decide) _).mono ?_
        rintro e w' ⟨rfl, rfl⟩
        go_wp2_with fail
        refine (isIdent_zero _).mono ?_
        rintro e w' ⟨rfl, rfl⟩
        go_wp2_with fail
        go_ret
        exact ⟨rfl, HL1.out, G1.out⟩
      · go_wp2_with fail
        refine PK.out.mono ?_
        rintro e w1 ⟨rfl, hb1⟩
        have L1 := HL.out.below hb1 HL.out.lt
        have c0 := L1.c0; have c1 := L1.c1; have f1 := L1.f1
        have HL1 := Lib.hid L1
        have G1 := Lib.hid (grown_low HG.out hb1)
        clear hb1 L1
        go_wp2_with fail
        refine (isNumber_is (c := 0) (b := false) (by decide) _).mono ?_
        rintro e w' ⟨rfl, rfl⟩
        go_wp2_with fail
        refine (isIdent_zero _).mono ?_
        rintro e w' ⟨rfl, rfl⟩
        go_wp2_with fail
        go_ret
        exact ⟨rfl, HL1.out, G1.out⟩
    · have hb40 : o ≤ 1000 := by omega
      rcases hst with ⟨rfl, h1, h2⟩ | ⟨rfl, h1, h2⟩
      · by_cases hq : o < q
        · have HD := Lib.hid (HT.out.d1 o h1 hq)
          generalize byteAt s o = c at PK HD
          go_wp2_with fail
          refine PK.out.mono ?_
          rintro e w1 ⟨rfl, hb1⟩
          have L1 := HL.out.below hb1 HL.out.lt
          have c0 := L1.c0; have c1 := L1.c1; have f1 := L1.f1
          have HL1 := Lib.hid L1
          have G1 := Lib.hid (grown_low HG.out hb1)
          clear hb1 L1
          go_wp2_with fail
          refine (isNumber_is HD.out _).mono ?_
          rintro e w' ⟨rfl, rfl⟩
          go_wp2_with fail
          go_roundw
          case rel => exact ⟨o + 1, HL1.out.next, grown_set G1.out, Or.inl ⟨rfl, by omega, by omega⟩⟩
          case measure =>
            rw [HM.out, HL1.out.next.c1]
            simp [intOf]
            omega
        · obtain rfl : o = q := by omega
          rw [HT.out.dot (by omega)] at PK
          go_wp2_with fail
          refine PK.out.mono ?_
          rintro e w1 ⟨rfl, hb1⟩
          have L1 := HL.out.below hb1 HL.out.lt
          have c0 := L1.c0; have c1 := L1.c1; have f1 := L1.f1
          have HL1 := Lib.hid L1
          have G1 := Lib.hid (grown_low HG.out hb1)
          clear hb1 L1
          go_wp2_with fail
          refine (isNumber_is (c := 46) (b := false) (by decide) _).mono ?_
          rintro e w' ⟨rfl, rfl⟩
          go_wp2_with fail
          go_roundw
          case rel => exact ⟨o + 1, HL1.out.next, grown_set G1.out, Or.inr ⟨rfl, by omega, by omega⟩⟩
          case measure =>
            rw [HM.out, HL1.out.next.c1]
            simp [intOf]
            omega
      · have HD := Lib.hid (HT.out.d2 o h1 (by omega))
        generalize byteAt s o = c at PK HD
        go_wp2_with fail
        refine PK.out.mono ?_
        rintro e w1 ⟨rfl, hb1⟩
        have L1 := HL.out.below hb1 HL.out.lt
        have c0 := L1.c0; have c1 := L1.c1; have f1 := L1.f1
        have HL1 := Lib.hid L1
        have G1 := Lib.hid (grown_low HG.out hb1)
        clear hb1 L1
        go_wp2_with fail
        refine (isNumber_is HD.out _).mono ?_
        rintro e w' ⟨rfl, rfl⟩
        go_wp2_with fail
        go_roundw
        case rel => exact ⟨o + 1, HL1.out.next, grown_set G1.out, Or.inr ⟨rfl, by omega, by omega⟩⟩
        case measure =>
          rw [HM.out, HL1.out.next.c1]
          simp [intOf]
          omega
end Go.Proofs.YtbdciilkapgfjaaGreatDoor
