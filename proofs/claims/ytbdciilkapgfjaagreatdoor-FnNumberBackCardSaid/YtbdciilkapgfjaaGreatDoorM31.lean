/- A part of the proof. A part of the proof. -/
import Derived.Test.YtbdciilkapgfjaaGreatDoorZFmtI
import Derived.Test.YtbdciilkapgfjaaGreatDoorM18
import Derived.Test.YtbdciilkapgfjaaGreatDoorM13
import Derived.Deep.QuietTactic
import Derived.BigQuiet
import Derived.RegionTactic
import Derived.WalkKit
import Derived.LoopTactic
namespace Go.Proofs.YtbdciilkapgfjaaGreatDoor
open Go.RowKit

/-- Digits as cells. -/
def dcells (D : List Nat) : List Value := D.map fun (d : Nat) => Value.int .u8 (d : Int)
theorem dcells_len (D : List Nat) : (dcells D).length = D.length := by simp [dcells]
theorem dcells_get {D : List Nat} {j : Nat} (h : j < D.length) : (dcells D)[j]? = some (.int .u8 ((D[j] : Nat) : Int)) := by simp [dcells, h]
theorem dcells_append (D E : List Nat) : dcells (D ++ E) = dcells D ++ dcells E := by simp [dcells]
theorem dcells_take (D : List Nat) (n : Nat) : dcells (D.take n) = (dcells D).take n := by simp [dcells, List.map_take]

/-- A decimal at N, its digits in a row of their own, all of it in blocks from lo on and below hi. -/
structure DecAt (w : World) (lo hi N : Nat) (a : Option Addr) (cap : Nat) (D : List Nat) (dp : Int) : Prop where
  blk : w.heap[N]? = some (.cells #[.slice a D.length cap, .int .i64 dp] 208 (0, 0))
  row : w.ownsRow lo 5 1 (.slice a D.length cap) D.length (dcells D)
  far : ∀ g, a = some g → g.block ≠ N ∧ g.block < hi
  low : lo ≤ N
  high : N < hi
  size : hi ≤ w.heap.size

section
variable {w w' : World} {lo hi N cap : Nat} {a : Option Addr} {D : List Nat} {dp : Int}

theorem DecAt.keep (h : DecAt w lo hi N a cap D dp) (hb : Below hi w w') : DecAt w' lo hi N a cap D dp := by
  refine ⟨(hb.block N h.high).trans h.blk, row_same h.row fun g hg => hb.block g ?_, h.far, h.low, h.high, Nat.le_trans h.size hb.size⟩
  cases a with
  | none => cases hg
  | some g' => cases hg; exact (h.far g' rfl).2
theorem DecAt.mono (h : DecAt w lo hi N a cap D dp) {hi' : Nat} (h1 : hi ≤ hi') (h2 : hi' ≤ w.heap.size) : DecAt w lo hi' N a cap D dp :=
  ⟨h.blk, h.row, fun g hg => ⟨(h.far g hg).1, Nat.lt_of_lt_of_le (h.far g hg).2 h1⟩, h.low, Nat.lt_of_lt_of_le h.high h1, h2⟩
theorem DecAt.lt (h : DecAt w lo hi N a cap D dp) : N < w.heap.size := Nat.lt_of_lt_of_le h.high h.size
theorem DecAt.c0 (h : DecAt w lo hi N a cap D dp) : w.cell? ⟨N, 0, none⟩ = some (.slice a D.length cap) := by rw [Lib.cell_of_heap h.blk]; rfl
theorem DecAt.c1 (h : DecAt w lo hi N a cap D dp) : w.cell? ⟨N, 1, none⟩ = some (.int .i64 dp) := by rw [Lib.cell_of_heap h.blk]; rfl
theorem DecAt.f0 (h : DecAt w lo hi N a cap D dp) : w.frozen? ⟨N, 0, none⟩ = false := Lib.frozen_of_heap h.blk 0
theorem DecAt.f1 (h : DecAt w lo hi N a cap D dp) : w.frozen? ⟨N, 1, none⟩ = false := Lib.frozen_of_heap h.blk 1
/-- Where there is a digit there is an array. -/
theorem DecAt.arr (h : DecAt w lo hi N a cap D dp) (hne : D ≠ []) : ∃ g, a = some ⟨g, 0, none⟩ ∧ (∀ j (_ : j < D.length), w.cell? ⟨g, j, none⟩ = some (.int .u8 ((D[j] : Nat) : Int))) ∧ D.length ≤ cap ∧ g < hi ∧ g ≠ N ∧ lo ≤ g := by
  rcases h.row.2 with ⟨_, h2⟩ | ⟨g, cap', cur, h1, h3, hg, h2, _⟩
  · exact absurd (List.eq_nil_of_length_eq_zero h2) hne
  · cases h1
    refine ⟨g, rfl, fun j hj => ?_, h2, (h.far _ rfl).2, (h.far _ rfl).1, h3⟩
    have := h.row.cells rfl j _ (dcells_get hj)
    rwa [addr_add, Nat.zero_add] at this
/-- A shorter row is a row. -/
theorem row_shorter {base n m cap' : Nat} {e : TypeId} {xs : List Value} (h : w.ownsRow base e 1 (.slice a n cap') n xs) (ha : a ≠ none) (hm : m ≤ n) : w.ownsRow base e 1 (.slice a m cap') m (xs.take m) := by
  obtain ⟨h0, h1 | ⟨g, c2, cur, h1, h2, h3, h4, h5, h6, h7⟩⟩ := h
  · cases h1.1; exact absurd rfl ha
  · cases h1
    refine ⟨by simp; omega, .inr ⟨g, cap', cur, rfl, h2, h3, by omega, h5, h6, ?_⟩⟩
    rw [← h7, List.take_take]
    congr 1; omega
/-- The last digit left out. -/
theorem DecAt.cut {d : Nat} (h : DecAt w lo hi N a cap (D ++ [d]) dp) : DecAt (w.setCell ⟨N, 0, none⟩ (.slice a D.length cap)) lo hi N a cap D dp := by
  have ha : a ≠ none := by obtain ⟨g, rfl, _⟩ := h.arr (by simp); simp
  have hr := row_shorter (m := D.length) h.row ha (by simp)
  rw [dcells_append, List.take_append_of_le_length (by rw [dcells_len]; exact Nat.le_refl _), List.take_of_length_le (by rw [dcells_len]; exact Nat.le_refl _)] at hr
  refine ⟨heap_setCell_same w ⟨N, 0, none⟩ _ h.blk rfl, row_same hr fun g hg => Below.heap_setCell _ _ _ _ ?_, h.far, h.low, h.high, by simpa [World.setCell] using h.size⟩
  cases a with
  | none => exact absurd rfl ha
  | some g' => cases hg; exact (h.far g' rfl).1
/-- The power of ten stored. -/
theorem DecAt.point (h : DecAt w lo hi N a cap D dp) (e : Int) : DecAt (w.setCell ⟨N, 1, none⟩ (.int .i64 e)) lo hi N a cap D e := by
  refine ⟨heap_setCell_same w ⟨N, 1, none⟩ _ h.blk rfl, row_same h.row fun g hg => Below.heap_setCell _ _ _ _ ?_, h.far, h.low, h.high, by simpa [World.setCell] using h.size⟩
  cases a with
  | none => cases hg
  | some g' => cases hg; exact (h.far g' rfl).1
/-- Another row of digits stored. -/
theorem DecAt.digits {a' : Option Addr} {cap' hi' : Nat} {E : List Nat} (h : DecAt w lo hi N a cap D dp) (hr : w.ownsRow lo 5 1 (.slice a' E.length cap') E.length (dcells E)) (hf : ∀ g, a' = some g → g.block ≠ N ∧ g.block < hi') (h1 : hi ≤ hi') (h2 : hi' ≤ w.heap.size) : DecAt (w.setCell ⟨N, 0, none⟩ (.slice a' E.length cap')) lo hi' N a' cap' E dp := by
  refine ⟨heap_setCell_same w ⟨N, 0, none⟩ _ h.blk rfl, row_same hr fun g hg => Below.heap_setCell _ _ _ _ ?_, hf, h.low, Nat.lt_of_lt_of_le h.high h1, by simpa [World.setCell] using h2⟩
  cases a' with
  | none => cases hg
  | some g' => cases hg; exact (hf g' rfl).1
end

theorem bdrew {B : Nat} {w w' : World} (h : Below B w w') (n : Nat) : Below B w (w'.drewN n) := ⟨h.os, h.tape, h.output, h.size, h.block⟩
theorem DecAt.drew {w : World} {lo hi N cap : Nat} {a : Option Addr} {D : List Nat} {dp : Int} (h : DecAt w lo hi N a cap D dp) (n : Nat) : DecAt (w.drewN n) lo hi N a cap D dp := h.keep (bdrew (Below.refl _ _) n)
/-- A decimal somewhere behind lo. -/
def IsDec (w : World) (lo hi N : Nat) (D : List Nat) (dp : Int) : Prop := ∃ a cap, DecAt w lo hi N a cap D dp

theorem nil_or_snoc (E : List Nat) : E = [] ∨ ∃ F d, E = F ++ [d] := by
  rcases List.eq_nil_or_concat E with h | ⟨F, d, h⟩
  · exact Or.inl h
  · exact Or.inr ⟨F, d, by rw [h]; simp⟩
/-- The length of the digits, as a measure. -/
def lenAt (w : World) (N : Nat) : Nat := match w.cell? ⟨N, 0, none⟩ with
  | some (.slice _ n _) => n
  | _ => 0
theorem DecAt.len {w : World} {lo hi N cap : Nat} {a : Option Addr} {D : List Nat} {dp : Int} (h : DecAt w lo hi N a cap D dp) : lenAt w N = D.length := by unfold lenAt; rw [h.c0]

theorem fieldDec0 (N : Nat) (w : World) : (Instr.fieldAt 208 (.pointer (some ⟨N, 0, none⟩)) 0).run Tryz.prog w = .ok (.pointer (some ⟨N, 0, none⟩)) w := by go_simp
theorem fieldDec1 (N : Nat) (w : World) : (Instr.fieldAt 208 (.pointer (some ⟨N, 0, none⟩)) 1).run Tryz.prog w = .ok (.pointer (some ⟨N, 1, none⟩)) w := by go_simp

set_option maxRecDepth 100000 in
/-- digit. -/
theorem digit_any {w : World} {lo hi N cap : Nat} {a : Option Addr} {D : List Nat} {dp : Int} (h : DecAt w lo hi N a cap D dp) (i : Nat) :
    Calls Tryz.prog 169 #[.pointer (some ⟨N, 0, none⟩), .int .i64 (i : Int)] w fun e w' => e = .returned (.int .u8 ((D.getD i 0 : Nat) : Int)) ∧ w' = w := by
  have c0 := h.c0
  by_cases hlt : i < D.length
  · obtain ⟨g, rfl, hc, _⟩ := h.arr (by intro e; subst e; simp at hlt)
    have cj := hc i hlt
    have B : Hid (D.getD i 0 = D[i]) := Lib.hid (by simp [hlt])
    have d1 : decide ((i : Int) < (D.length : Int)) = true := decide_eq_true (by omega)
    have hlt' : (i : Int) < (D.length : Int) := by omega
    clear h hc
    go_enter Tryz.func169, Tryz.ntmps169
    go_wp2_with fail
    go_ret
    exact ⟨by rw [B.out]; rfl, rfl⟩
  · have B : Hid (D.getD i 0 = 0) := Lib.hid (by simp [List.getD, List.getElem?_eq_none (Nat.le_of_not_lt hlt)])
    have d1 : decide ((i : Int) < (D.length : Int)) = false := decide_eq_false (by omega)
    clear h
    go_enter Tryz.func169, Tryz.ntmps169
    go_wp2_with fail
    go_ret
    exact ⟨by rw [B.out]; rfl, rfl⟩

set_option maxRecDepth 100000 in
set_option maxHeartbeats 1000000 in
/-- trim. -/
theorem trim_any {w : World} {lo hi N cap : Nat} {a : Option Addr} {D : List Nat} {dp : Int} (h : DecAt w lo hi N a cap D dp) (hl : D.length < 1000) :
    Calls Tryz.prog 162 #[.pointer (some ⟨N, 0, none⟩)] w fun e w' => e = .returned (.pointer (some ⟨N, 0, none⟩)) ∧ (∃ dp', DecAt w' lo hi N a cap (trimD D) dp' ∧ (dp' = dp ∨ dp' = 0) ∧ (trimD D ≠ [] → dp' = dp)) ∧ Below lo w w' := by
  have H := Lib.hid h; have LO := h.low; have HL := Lib.hid hl
  clear h hl
  go_enter Tryz.func162, Tryz.ntmps162
  go_wp2_with fail
  go_loopw [] (fun wr => ∃ E, trimD E = trimD D ∧ E.length < 1000 ∧ DecAt wr lo hi N a cap E dp ∧ Below lo w wr) (fun wr => lenAt wr N)
  case atStart => exact ⟨D, rfl, HL.out, H.out, Below.refl _ _⟩
  case round =>
    obtain ⟨E, hE, hl, hd, hb⟩ := hrel
    have HD := Lib.hid hd; have HB := Lib.hid hb; have HE := Lib.hid hE
    have c0 := hd.c0; have c1 := hd.c1; have f0 := hd.f0; have f1 := hd.f1
    rcases nil_or_snoc E with rfl | ⟨F, d, rfl⟩
    · simp only [List.length_nil] at c0
      clear hb hE hl hd
      go_wp2_with fail
      go_quiet (fail)
      go_wp2_with fail
      go_ret
      have e : trimD D = [] := by rw [← HE.out]; rfl
      exact ⟨rfl, ⟨0, by rw [e]; exact (HD.out.drew _).point 0, Or.inr rfl, fun h => absurd e h⟩, (bdrew HB.out _).setCell (p := ⟨N, 1, none⟩) LO _⟩
    · obtain ⟨g, rfl, hc, hcap, _⟩ := hd.arr (by simp)
      have cj : wr.cell? ⟨g, F.length, none⟩ = some (.int .u8 (d : Int)) := by simpa using hc F.length (by simp)
      have HM := Lib.hid hd.len
      rw [List.length_append, List.length_singleton] at c0 hcap
      obtain ⟨m, hm⟩ : ∃ m, m = F.length := ⟨_, rfl⟩
      rw [← hm] at c0 cj hcap
      have hm2 : m < 1000 := by rw [List.length_append, List.length_singleton] at hl; omega
      have Hm := Lib.hid hm
      by_cases h0 : d = 0
      · subst h0
        clear hb hE hl hd hc hm
        go_wp2_with fail
        go_quiet (fail)
        go_wp2_with fail
        go_region
        all_goals
          go_wp2_with fail
          go_roundw
          case rel =>
            have hc := (HD.out.drew (nq + 1)).cut
            rw [← Hm.out] at hc
            exact ⟨F, by rw [← HE.out, trimD_snoc0], by have := Hm.out; omega, hc, (bdrew HB.out _).setCell (p := ⟨N, 0, none⟩) LO _⟩
          case measure =>
            have hc := (HD.out.drew (nq + 1)).cut
            rw [← Hm.out] at hc
            rw [hc.len, HM.out, List.length_append, List.length_singleton]
            omega
      · have h9 : ((d : Int) == 0) = false := by simp; omega
        have e : trimD D = F ++ [d] := by rw [← HE.out, trimD_snoc h0]
        have E := Lib.hid e
        have hm1 : (((m : Int) + 1) == 0) = false := by simp; omega
        clear hb hE hl hd hc hm e h0
        go_wp2_with fail
        go_quiet (fail)
        go_wp2_with fail
        go_ret
        exact ⟨rfl, ⟨dp, by rw [E.out]; exact HD.out.drew _, Or.inl rfl, fun _ => rfl⟩, bdrew HB.out _⟩
end Go.Proofs.YtbdciilkapgfjaaGreatDoor

namespace Go.Proofs.YtbdciilkapgfjaaGreatDoor
open Go.RowKit

theorem scaled_nil (K : Nat) (dp : Int) : scaled K [] dp = 0 := by simp [scaled, dval]
theorem cmpOK_nil {E : List Nat} {dp ep i : Int} : CmpOK [] dp E ep i := fun K _ _ h => by rw [scaled_nil] at h; omega
theorem cmpOK_empty {D : List Nat} {dp ep : Int} (hne : D ≠ []) : CmpOK D dp [] ep (D.length : Int) := fun K _ _ _ => by have := List.length_pos_iff.2 hne; omega
theorem cmpOK_dp {D E : List Nat} {dp ep : Int} (hD : ∀ d ∈ D, d < 10) (hE : Norm E) (hE0 : E ≠ []) (hne : dp ≠ ep) : CmpOK D dp E ep (dp - ep) := fun K h1 h2 h => by
  rcases Int.lt_or_gt_of_ne hne with h' | h'
  · have := cmp_dp (K := K) hD hE hE0 h' h1 h2; omega
  · omega
theorem cmpOK_digit {D E : List Nat} {dp : Int} {i : Nat} (hD : ∀ d ∈ D, d < 10) (hE : ∀ d ∈ E, d < 10) (heq : ∀ t, t < i → D.getD t 0 = E.getD t 0) (hne : D.getD i 0 ≠ E.getD i 0) : CmpOK D dp E dp (((D.getD i 0 : Nat) : Int) - ((E.getD i 0 : Nat) : Int)) := fun K h1 h2 h => by
  rcases Nat.lt_or_gt_of_ne hne with h' | h'
  · have := cmp_digit (K := K) hD hE heq h' h1 h2; omega
  · omega
theorem cmpOK_same {D E : List Nat} {dp : Int} {i : Nat} (h1 : D.length ≤ i) (h2 : E.length ≤ i) (heq : ∀ t, t < i → D.getD t 0 = E.getD t 0) : CmpOK D dp E dp 0 := fun K h3 h4 h => by
  have := cmp_same (K := K) (dp := dp) (D := D) (E := E) (fun t => by
    rcases Nat.lt_or_ge t i with ht | ht
    · exact heq t ht
    · simp [List.getD, List.getElem?_eq_none (show D.length ≤ t by omega), List.getElem?_eq_none (show E.length ≤ t by omega)]) h3 h4
  omega

set_option maxRecDepth 100000 in
set_option maxHeartbeats 2000000 in
/-- cmp. -/
theorem cmp_any {w : World} {lo hi N cap lo' hi' M cap' : Nat} {a b : Option Addr} {D E : List Nat} {dp ep : Int} (h : DecAt w lo hi N a cap D dp) (h' : DecAt w lo' hi' M b cap' E ep) (hD : ∀ d ∈ D, d < 10) (hE : Norm E) (l1 : D.length < 200) (l2 : E.length < 200)
    (b1 : -2000 ≤ dp) (b2 : dp ≤ 2000) (b3 : -2000 ≤ ep) (b4 : ep ≤ 2000) :
    Calls Tryz.prog 167 #[.pointer (some ⟨N, 0, none⟩), .pointer (some ⟨M, 0, none⟩)] w fun e w' => ∃ i : Int, e = .returned (.int .i64 i) ∧ CmpOK D dp E ep i ∧ Below w.heap.size w w' := by
  have c0 := h.c0; have c1 := h.c1; have e0 := h'.c0; have e1 := h'.c1
  have H := Lib.hid h; have H' := Lib.hid h'; have HD := Lib.hid hD; have HE := Lib.hid hE
  clear h h' hD hE
  by_cases hD0 : D = []
  · subst hD0
    rw [List.length_nil] at c0
    clear l1
    go_enter Tryz.func167, Tryz.ntmps167
    go_wp2_with fail
    go_quiet (fail)
    go_wp2_with fail
    go_ret
    exact ⟨_, rfl, cmpOK_nil, bdrew (Below.refl _ _) _⟩
  · have hDl : ((D.length : Int) == 0) = false := by simp; exact hD0
    by_cases hE0 : E = []
    · subst hE0
      rw [List.length_nil] at e0
      have OK := Lib.hid (cmpOK_empty (dp := dp) (ep := ep) hD0)
      clear l2 hD0
      go_enter Tryz.func167, Tryz.ntmps167
      go_wp2_with fail
      go_quiet (fail)
      go_wp2_with fail
      go_ret
      exact ⟨_, rfl, OK.out, bdrew (Below.refl _ _) _⟩
    · have hEl : ((E.length : Int) == 0) = false := by simp; exact hE0
      by_cases hdp : dp = ep
      · subst hdp
        clear hD0 hE0
        go_enter Tryz.func167, Tryz.ntmps167
        go_wp2_with fail
        go_quiet (fail)
        go_wp2_with fail
        go_loopw [5] (fun ui wr => ∃ i : Nat, ui = .int .i64 (i : Int) ∧ i ≤ 200 ∧ (∃ q, wr = w.drewN q) ∧ ∀ t, t < i → D.getD t 0 = E.getD t 0) (fun ui _ => 200 - (intOf ui).toNat)
        case atStart => exact ⟨0, rfl, by omega, ⟨_, rfl⟩, fun t h => by omega⟩
        case round =>
          obtain ⟨i, rfl, hi, ⟨q, rfl⟩, heq⟩ := hrel
          have HEQ := Lib.hid heq
          have d1 := (H.out.drew q); have d2 := (H'.out.drew q)
          have c0 := d1.c0; have e0 := d2.c0
          have DG := Lib.hid (digit_any d1 i); have EG := Lib.hid (digit_any d2 i)
          clear heq d1 d2
          obtain ⟨d, hd⟩ : ∃ d, D.getD i 0 = d := ⟨_, rfl⟩
          obtain ⟨e, he⟩ : ∃ e, E.getD i 0 = e := ⟨_, rfl⟩
          have hd9 : d < 10 := by rw [← hd]; exact getD_dig HD.out i
          have he9 : e < 10 := by rw [← he]; exact getD_dig HE.out.dig i
          rw [hd] at DG
          rw [he] at EG
          have GD := Lib.hid hd; have GE := Lib.hid he
          clear hd he
          by_cases hi1 : i < D.length
          · have t1 : decide ((i : Int) < (D.length : Int)) = true := decide_eq_true (by omega)
            have hi2 : i < 200 := by omega
            by_cases hne : d = e
            · subst hne
              have hz : ((d : Int) != (d : Int)) = false := by simp
              go_wp2_with fail
              refine DG.out.mono ?_
              rintro e w' ⟨rfl, rfl⟩
              go_wp2_with fail
              refine EG.out.mono ?_
              rintro e w' ⟨rfl, rfl⟩
              go_wp2_with fail
              go_roundw
              case rel => exact ⟨i + 1, by go_num, by omega, ⟨_, rfl⟩, fun t h => (Nat.lt_succ_iff_lt_or_eq.1 h).elim (HEQ.out t) (fun h => by rw [h, GD.out, GE.out])⟩
              case measure => simp [intOf]; omega
            · have OK := Lib.hid (cmpOK_digit (dp := dp) HD.out HE.out.dig HEQ.out (by rw [GD.out, GE.out]; exact hne))
              rw [GD.out, GE.out] at OK
              have hz : ((d : Int) != (e : Int)) = true := by simp; omega
              go_wp2_with fail
              refine DG.out.mono ?_
              rintro e w' ⟨rfl, rfl⟩
              go_wp2_with fail
              refine EG.out.mono ?_
              rintro e w' ⟨rfl, rfl⟩
              go_wp2_with fail
              refine DG.out.mono ?_
              rintro e w' ⟨rfl, rfl⟩
              go_wp2_with fail
              refine EG.out.mono ?_
              rintro e w' ⟨rfl, rfl⟩
              go_wp2_with fail
              go_ret
              exact ⟨_, rfl, OK.out, bdrew (Below.refl _ _) _⟩
          · have t1 : decide ((i : Int) < (D.length : Int)) = false := decide_eq_false (by omega)
            by_cases hi3 : i < E.length
            · have t2 : decide ((i : Int) < (E.length : Int)) = true := decide_eq_true (by omega)
              have hi2 : i < 200 := by omega
              by_cases hne : d = e
              · subst hne
                have hz : ((d : Int) != (d : Int)) = false := by simp
                go_wp2_with fail
                refine DG.out.mono ?_
                rintro e w' ⟨rfl, rfl⟩
                go_wp2_with fail
                refine EG.out.mono ?_
                rintro e w' ⟨rfl, rfl⟩
                go_wp2_with fail
                go_roundw
                case rel => exact ⟨i + 1, by go_num, by omega, ⟨_, rfl⟩, fun t h => (Nat.lt_succ_iff_lt_or_eq.1 h).elim (HEQ.out t) (fun h => by rw [h, GD.out, GE.out])⟩
                case measure => simp [intOf]; omega
              · have OK := Lib.hid (cmpOK_digit (dp := dp) HD.out HE.out.dig HEQ.out (by rw [GD.out, GE.out]; exact hne))
                rw [GD.out, GE.out] at OK
                have hz : ((d : Int) != (e : Int)) = true := by simp; omega
                go_wp2_with fail
                refine DG.out.mono ?_
                rintro e w' ⟨rfl, rfl⟩
                go_wp2_with fail
                refine EG.out.mono ?_
                rintro e w' ⟨rfl, rfl⟩
                go_wp2_with fail
                refine DG.out.mono ?_
                rintro e w' ⟨rfl, rfl⟩
                go_wp2_with fail
                refine EG.out.mono ?_
                rintro e w' ⟨rfl, rfl⟩
                go_wp2_with fail
                go_ret
                exact ⟨_, rfl, OK.out, bdrew (Below.refl _ _) _⟩
            · have t2 : decide ((i : Int) < (E.length : Int)) = false := decide_eq_false (by omega)
              have OK := Lib.hid (cmpOK_same (dp := dp) (Nat.le_of_not_lt hi1) (Nat.le_of_not_lt hi3) HEQ.out)
              go_wp2_with fail
              go_ret
              exact ⟨_, rfl, OK.out, bdrew (Below.refl _ _) _⟩
      · have OK := Lib.hid (cmpOK_dp HD.out HE.out hE0 hdp)
        have hne : (dp == ep) = false := by simpa using hdp
        clear hD0 hE0
        go_enter Tryz.func167, Tryz.ntmps167
        go_wp2_with fail
        go_quiet (fail)
        go_wp2_with fail
        go_quiet (fail)
        go_wp2_with fail
        go_ret
        exact ⟨_, rfl, OK.out, bdrew (bdrew (Below.refl _ _) _) _⟩
end Go.Proofs.YtbdciilkapgfjaaGreatDoor
