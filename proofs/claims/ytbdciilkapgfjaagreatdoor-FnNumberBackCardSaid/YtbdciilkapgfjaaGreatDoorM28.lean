/- A part of the proof. A part of the proof. A part of the proof. A part of the proof. -/
import Derived.Test.YtbdciilkapgfjaaGreatDoorM23
import Derived.Test.YtbdciilkapgfjaaGreatDoorZReadF
import Derived.Test.YtbdciilkapgfjaaGreatDoorM27
import Derived.Test.YtbdciilkapgfjaaGreatDoorM21
import Derived.Shelf.Strconv.ErrVarParseInt
namespace Go.Proofs.YtbdciilkapgfjaaGreatDoor
open Go.RowKit

theorem special_half {s : ByteArray} {neg : Bool} {k p q : Nat} (h : HalfAt s neg k p q) (w : World) :
    Calls Tryz.prog 149 #[.string s] w fun e w' => e = .returned (.tuple #[.float .f64 0, .int .i64 0, .bool false]) ∧ w' = w := by
  have hlen := List.length_pos_iff.2 (digs_ne k)
  have hq := h.len; have hz := h.size; have hp := h.sign
  have hd := digs_dig k _ (List.getElem_mem hlen)
  have e := h.d 0 hlen
  cases neg with
  | false =>
    obtain rfl : p = 0 := hp
    exact special_digit (by omega) (at_byte (by omega) e) (by omega) (by omega) w
  | true =>
    obtain rfl : p = 1 := hp
    exact special_minus (by omega) (at_byte (by omega) (h.minus rfl)) (at_byte (by omega) e) (by omega) (by omega) w

theorem FpAt.lift {w w' : World} (h : FpAt w) (hb : Below w.heap.size w w') (h6 : 6 < w.heap.size) (h7 : 7 < w.heap.size) (h8 : 10 < w.heap.size) : FpAt w' := by
  obtain ⟨b, o, l, c, p0, hl, hl2, p1, hlt⟩ := h.pow
  exact ⟨(hb.cell (p := ⟨6, 0, none⟩) h6).trans h.opt, (hb.cell (p := ⟨7, 0, none⟩) h7).trans h.info, b, o, l, c, (hb.cell (p := ⟨10, 0, none⟩) h8).trans p0, hl, hl2, (hb.cell (p := ⟨b, o + 1, none⟩) hlt).trans p1, Nat.lt_of_lt_of_le hlt hb.size⟩

set_option maxRecDepth 100000 in
set_option maxHeartbeats 1000000 in
theorem atof64_half {s : ByteArray} {k p q : Nat} {h : Int} {w : World} (hA : HalfAt s (decide (h < 0)) k p q) (hk : h.natAbs = 2 * k + 1) (h2 : h.natAbs ≤ 2000000000000000) (hF : FpAt w) (hP : PowAt w) :
    Calls Tryz.prog 120 #[.string s] w fun e w' => e = .returned (.tuple #[.float .f64 (fb h), .int .i64 (s.size : Int), .nilIface]) ∧ Below w.heap.size w w' := by
  have SP := Lib.hid (fun w => special_half hA w)
  have RF := Lib.hid (fun w => readFloat_any hA (by omega) w)
  obtain ⟨X, hX⟩ : ∃ X, X = 10 * k + 5 := ⟨_, rfl⟩
  have hX5 : 5 * h.natAbs = X := by omega
  obtain ⟨neg, hn⟩ : ∃ neg, neg = decide (h < 0) := ⟨_, rfl⟩
  simp only [readTuple, ← hX, ← hn] at RF
  have opt := hF.opt
  have x0 : ((X : Int) == 0) = false := by simp; omega
  obtain ⟨i, hi⟩ : ∃ i : Int, i = if neg then 1 else 0 := ⟨_, rfl⟩
  obtain ⟨sg, hg⟩ : ∃ sg : Nat, sg = sgnW neg := ⟨_, rfl⟩
  have BU : Hid (∀ w : World, Calls Tryz.prog 158 #[.bool neg] w fun e w' => e = .returned (.int .u64 i) ∧ w' = w) := Lib.hid (fun w => by rw [hi]; exact bool2u_any neg w)
  have hsg : IntKind.u64.wrap (i * 9223372036854775808) = (sg : Int) := by rw [hi, hg]; cases neg <;> decide
  have hh0 : h ≠ 0 := by intro e; rw [e] at hk; simp at hk
  obtain ⟨Z, hZ⟩ : ∃ Z, Z = fb h := ⟨_, rfl⟩
  by_cases hs : X < 4503599627370496
  · have EX : Hid (∀ w1, w1 = w → Calls Tryz.prog 160 #[.int .u64 (X : Int), .int .i64 (-1), .bool neg] w1 fun e w' => e = .returned (.tuple #[.float .f64 Z, .bool true]) ∧ Below w1.heap.size w1 w') := Lib.hid (by
      rintro w1 rfl
      have := exact_small hF hh0 (by omega)
      rw [hX5, ← hn, ← hZ] at this
      exact this)
    rw [← hZ]
    clear hA hk h2 hF hP hX hX5 hn hs hh0 hZ hi hg
    go_enter Tryz.func120, Tryz.ntmps120
    go_wp2_with fail
    refine (SP.out _).mono ?_
    rintro e w' ⟨rfl, rfl⟩
    go_wp2_with fail
    refine (RF.out _).mono ?_
    rintro e w' ⟨rfl, rfl⟩
    go_wp2_with fail
    refine (BU.out _).mono ?_
    rintro e w' ⟨rfl, rfl⟩
    go_wp2_with fail
    refine (EX.out _ rfl).mono ?_
    rintro e w1 ⟨rfl, hb⟩
    have HB := Lib.hid hb
    clear hb
    go_wp2_with fail
    go_ret3
    exact ⟨rfl, HB.out⟩
  · have EX : Hid (∀ w1, w1 = w → Calls Tryz.prog 160 #[.int .u64 (X : Int), .int .i64 (-1), .bool neg] w1 fun e w' => e = .returned (.tuple #[.float .f64 0, .bool false]) ∧ Below w1.heap.size w1 w') := Lib.hid (by
      rintro w1 rfl
      exact exact_big hF (by omega) (by omega))
    have PF : Hid (∀ w1, Below w.heap.size w w1 → Calls Tryz.prog 161 #[.int .u64 (X : Int), .int .i64 (-1), .int .u64 (sg : Int)] w1 fun e w' => e = .returned (.tuple #[.float .f64 Z, .nilIface]) ∧ Below w1.heap.size w1 w') := Lib.hid (fun w1 hb => by
      have := parseFloat64_half (h := h) (hP.below hb hP.lt) (by omega) h2
      rw [hX5, ← hn, ← hZ, ← hg] at this
      exact this)
    rw [← hZ]
    clear hA hk h2 hF hP hX hX5 hn hs hh0 hZ hi hg
    go_enter Tryz.func120, Tryz.ntmps120
    go_wp2_with fail
    refine (SP.out _).mono ?_
    rintro e w' ⟨rfl, rfl⟩
    go_wp2_with fail
    refine (RF.out _).mono ?_
    rintro e w' ⟨rfl, rfl⟩
    go_wp2_with fail
    refine (BU.out _).mono ?_
    rintro e w' ⟨rfl, rfl⟩
    go_wp2_with fail
    refine (EX.out _ rfl).mono ?_
    rintro e w1 ⟨rfl, hb⟩
    have HB := Lib.hid hb
    clear hb
    go_wp2_with fail
    refine (PF.out _ HB.out).mono ?_
    rintro e w2 ⟨rfl, hb⟩
    have HB2 := Lib.hid (HB.out.trans (hb.mono HB.out.size))
    clear hb
    go_wp2_with fail
    go_ret3
    exact ⟨rfl, HB2.out⟩
end Go.Proofs.YtbdciilkapgfjaaGreatDoor

namespace Go.Proofs.YtbdciilkapgfjaaGreatDoor
open Go.RowKit

set_option maxRecDepth 100000 in
theorem parseFloat_chain {s : ByteArray} {Z : Nat} {w : World} (h : Calls Tryz.prog 120 #[.string s] w fun e w' => e = .returned (.tuple #[.float .f64 Z, .int .i64 (s.size : Int), .nilIface]) ∧ Below w.heap.size w w') :
    Calls Tryz.prog 48 #[.string s] w fun e w' => e = .returned (.tuple #[.float .f64 Z, .nilIface]) ∧ Below w.heap.size w w' := by
  have H1 : Hid (Calls Tryz.prog 105 #[.string s, .int .i64 64] w fun e w' => e = .returned (.tuple #[.float .f64 Z, .int .i64 (s.size : Int), .nilIface]) ∧ Below w.heap.size w w') := Lib.hid (by
    have H := Lib.hid h
    clear h
    go_enter Tryz.func105, Tryz.ntmps105
    go_wp2_with fail
    refine H.out.mono ?_
    rintro e w1 ⟨rfl, hb⟩
    have HB := Lib.hid hb
    clear hb
    go_wp2_with fail
    go_ret3
    exact ⟨rfl, HB.out⟩)
  clear h
  have H2 : Hid (Calls Tryz.prog 85 #[.string s, .int .i64 64] w fun e w' => e = .returned (.tuple #[.float .f64 Z, .nilIface]) ∧ Below w.heap.size w w') := Lib.hid (by
    go_enter Tryz.func85, Tryz.ntmps85
    go_wp2_with fail
    refine H1.out.mono ?_
    rintro e w1 ⟨rfl, hb⟩
    have HB := Lib.hid hb
    clear hb
    go_wp2_with fail
    go_ret2
    exact ⟨rfl, HB.out⟩)
  clear H1
  have H3 : Hid (Calls Tryz.prog 63 #[.string s, .int .i64 64] w fun e w' => e = .returned (.tuple #[.float .f64 Z, .nilIface]) ∧ Below w.heap.size w w') := Lib.hid (by
    go_enter Tryz.func63, Tryz.ntmps63
    go_wp2_with fail
    refine H2.out.mono ?_
    rintro e w1 ⟨rfl, hb⟩
    have HB := Lib.hid hb
    clear hb
    go_wp2_with fail
    go_ret2
    exact ⟨rfl, HB.out⟩)
  clear H2
  go_enter Tryz.func48, Tryz.ntmps48
  go_wp2_with fail
  refine H3.out.mono ?_
  rintro e w1 ⟨rfl, hb⟩
  have HB := Lib.hid hb
  clear hb
  go_wp2_with fail
  go_ret2
  exact ⟨rfl, HB.out⟩
end Go.Proofs.YtbdciilkapgfjaaGreatDoor

namespace Go.Proofs.YtbdciilkapgfjaaGreatDoor
open Go.RowKit Go.Shelf

theorem jInt64_bad {s : ByteArray} (h : Lib.parseIntB 64 s.data.toList = Lib.parseIntB 64 []) (hs : s.size ≤ 1000) {tp : TypeId} {p : Value} (w : World) (hv : w.var? Tryz.prog "strconv.ErrSyntax" = some #[.iface tp p]) :
    Calls Tryz.prog 45 #[.string s] w fun e w' => (∃ T N, e = .returned (.tuple #[.int .i64 0, .iface T (.pointer (some ⟨N, 0, none⟩))])) ∧ Below w.heap.size w w' := by
  have H := Lib.hid (Any.strconv_ParseInt_10_at64_syntax_var Tryz.parseIntC s (by omega) (h.trans rfl) tp p w hv)
  clear h hs hv
  go_enter Tryz.func45, Tryz.ntmps45
  go_wp2_with fail
  refine H.out.mono ?_
  rintro e w1 ⟨N, rfl, hN, hcell, hrest⟩
  have HB := Lib.hid hrest
  clear hrest hN hcell
  generalize Tryz.parseIntC_ren.t 168 = T
  go_wp2_with fail
  go_ret2
  exact ⟨⟨T, N, rfl⟩, HB.out⟩
end Go.Proofs.YtbdciilkapgfjaaGreatDoor

namespace Go.Proofs.YtbdciilkapgfjaaGreatDoor
open Go.RowKit Go.Shelf

theorem jString_any (s : ByteArray) (w : World) : Calls Tryz.prog 47 #[.string s] w fun e w' => e = .returned (.string s) ∧ w' = w := by
  go_enter Tryz.func47, Tryz.ntmps47
  go_wp2_with fail
  go_ret
  exact ⟨rfl, rfl⟩

set_option maxRecDepth 100000 in
theorem parseNumber_half {s : ByteArray} {Z : Nat} {w : World}
    (h1 : Calls Tryz.prog 45 #[.string s] w fun e w' => (∃ T N, e = .returned (.tuple #[.int .i64 0, .iface T (.pointer (some ⟨N, 0, none⟩))])) ∧ Below w.heap.size w w')
    (h2 : ∀ w1, Below w.heap.size w w1 → Calls Tryz.prog 46 #[.string s, .string ⟨#[46, 101, 69]⟩] w1 fun e w' => e = .returned (.bool true) ∧ Below w1.heap.size w1 w')
    (h3 : ∀ w1, Below w.heap.size w w1 → Calls Tryz.prog 48 #[.string s] w1 fun e w' => e = .returned (.tuple #[.float .f64 Z, .nilIface]) ∧ Below w1.heap.size w1 w') :
    Calls Tryz.prog 37 #[.string s] w fun e w' => e = .returned (.iface 39 (.float .f64 Z)) ∧ Below w.heap.size w w' := by
  have H1 := Lib.hid h1; have H2 := Lib.hid h2; have H3 := Lib.hid h3
  clear h1 h2 h3
  go_enter Tryz.func37, Tryz.ntmps37
  go_wp2_with fail
  refine H1.out.mono ?_
  rintro e w1 ⟨⟨T, N, rfl⟩, hb⟩
  have B1 := Lib.hid hb
  clear hb
  go_wp2_with fail
  refine (jString_any s _).mono ?_
  rintro e w' ⟨rfl, rfl⟩
  go_wp2_with fail
  refine (H2.out _ B1.out).mono ?_
  rintro e w2 ⟨rfl, hb⟩
  have B2 := Lib.hid (B1.out.trans (hb.mono B1.out.size))
  clear hb
  go_wp2_with fail
  refine (H3.out _ B2.out).mono ?_
  rintro e w3 ⟨rfl, hb⟩
  have B3 := Lib.hid (B2.out.trans (hb.mono B2.out.size))
  clear hb
  go_wp2_with fail
  go_ret
  exact ⟨rfl, B3.out⟩
end Go.Proofs.YtbdciilkapgfjaaGreatDoor
