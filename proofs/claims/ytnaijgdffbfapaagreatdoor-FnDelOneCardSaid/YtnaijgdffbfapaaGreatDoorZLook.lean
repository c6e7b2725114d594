/- The looker's want, part and str, each at any cells of a looker. -/
import Derived.Test.YtnaijgdffbfapaaGreatDoorProg
import Derived.Test.YtnaijgdffbfapaaGreatDoorM1
import Derived.Test.YtnaijgdffbfapaaGreatDoorUtf
import Derived.WalkKit
import Derived.WalkSpells
import Derived.WalkLawsBesides
import Derived.BigGuardPart
import Derived.Lib.Hide
import Derived.Maps.AppendAt
import Derived.Maps.RangeWalk
namespace Go.Proofs.YtnaijgdffbfapaaGreatDoor
open Go.RowKit

/-- Block b is a looker's three cells. -/
def Lk (w : World) (b : Nat) (p q : Int) (bad : Bool) : Prop := w.heap[b]? = some (.cells #[.int .i64 p, .int .i64 q, .bool bad] 55 (0, 0))

section
variable {w : World} {b : Nat} {p q : Int} {bad : Bool}
theorem Lk.c0 (h : Lk w b p q bad) : w.cell? ⟨b, 0, none⟩ = some (.int .i64 p) := by simp [World.cell?, show w.heap[b]? = _ from h]
theorem Lk.c1 (h : Lk w b p q bad) : w.cell? ⟨b, 1, none⟩ = some (.int .i64 q) := by simp [World.cell?, show w.heap[b]? = _ from h]
theorem Lk.c2 (h : Lk w b p q bad) : w.cell? ⟨b, 2, none⟩ = some (.bool bad) := by simp [World.cell?, show w.heap[b]? = _ from h]
theorem Lk.fr (h : Lk w b p q bad) (o : Nat) : w.frozen? ⟨b, o, none⟩ = false := by simp [World.frozen?, show w.heap[b]? = _ from h]
theorem Lk.lt (h : Lk w b p q bad) : b < w.heap.size := by
  rcases Nat.lt_or_ge b w.heap.size with h' | h'
  · exact h'
  · rw [Lk, Array.getElem?_eq_none h'] at h; cases h
theorem heap_setCell_same (w : World) (a : Addr) (v : Value) {c : Array Value} {t : TypeId} {f : Nat × Nat} (h : w.heap[a.block]? = some (.cells c t f)) (hs : a.spot = none) :
    (w.setCell a v).heap[a.block]? = some (.cells (c.setIfInBounds a.off v) t f) := by
  simp only [World.setCell, Array.getElem?_modify, if_true, h, hs]; rfl
theorem Lk.set0 (h : Lk w b p q bad) (p' : Int) : Lk (w.setCell ⟨b, 0, none⟩ (.int .i64 p')) b p' q bad := by
  have := heap_setCell_same w ⟨b, 0, none⟩ (.int .i64 p') h rfl; simpa [Lk] using this
theorem Lk.set1 (h : Lk w b p q bad) (q' : Int) : Lk (w.setCell ⟨b, 1, none⟩ (.int .i64 q')) b p q' bad := by
  have := heap_setCell_same w ⟨b, 1, none⟩ (.int .i64 q') h rfl; simpa [Lk] using this
theorem Lk.set2 (h : Lk w b p q bad) (b' : Bool) : Lk (w.setCell ⟨b, 2, none⟩ (.bool b')) b p q b' := by
  have := heap_setCell_same w ⟨b, 2, none⟩ (.bool b') h rfl; simpa [Lk] using this
theorem Lk.kept {w' : World} {B : Nat} (h : Lk w b p q bad) (hb : Below B w w') (hB : b < B) : Lk w' b p q bad := (hb.block b hB).trans h
end

/-- What has been seen so far is all right, as long as nothing is bad. -/
def Ok (p q : Int) (bad : Bool) : Prop := bad = false → 0 ≤ p ∧ p ≤ 400 ∧ 0 ≤ q ∧ q ≤ 2000

theorem grown_setCell (w : World) (b o : Nat) (v : Value) : w.grownBy (w.setCell ⟨b, o, none⟩ v) (some b) := by
  refine ⟨rfl, rfl, rfl, by simp [World.setCell], fun i hi hne => ?_⟩
  exact Below.heap_setCell _ _ _ _ (by intro e; exact hne (by rw [e]))
theorem heap_alloc_at (w : World) (o : Obj) : (w.alloc o).heap[w.heap.size]? = some o := by
  show (w.heap.push o)[w.heap.size]? = _
  simp
theorem grown_refl (w : World) (r : Option Nat) : w.grownBy w r := ⟨rfl, rfl, rfl, Nat.le_refl _, fun _ _ _ => rfl⟩
theorem grown_of_below {w w' : World} (h : Below w.heap.size w w') (r : Option Nat) : w.grownBy w' r := ⟨h.os, h.tape, h.output, h.size, fun k hk _ => h.block k hk⟩
theorem below_of_grown {w w' : World} {b B : Nat} (h : w.grownBy w' (some b)) (hB : B ≤ b) (hs : B ≤ w.heap.size) : Below B w w' :=
  ⟨h.os, h.tape, h.output, h.size, fun k hk => h.block k (by omega) (by intro e; cases e; omega)⟩
theorem below_none {w w' : World} {B : Nat} (h : w.grownBy w' none) (hs : B ≤ w.heap.size) : Below B w w' :=
  ⟨h.os, h.tape, h.output, h.size, fun k hk => h.block k (by omega) (by intro e; cases e)⟩

/-- What a call of a method of the looker's leaves: the looker's cells, and all other blocks as they were. -/
def LkPost (b : Nat) (w : World) (R : Value → Int → Int → Bool → Prop) (e : Ending) (w' : World) : Prop :=
  ∃ v p q bad, e = .returned v ∧ Lk w' b p q bad ∧ w.grownBy w' (some b) ∧ R v p q bad

theorem want_any {b : Nat} {p q : Int} {bad : Bool} (c : Bool) {w : World} (h : Lk w b p q bad) :
    Calls Tryz.prog 35 #[.pointer (some ⟨b, 0, none⟩), .bool c] w fun e w' => e = .returned (.tuple #[]) ∧ Lk w' b p q (bad || !c) ∧ w.grownBy w' (some b) := by
  have h2 := h.c2
  have hf := h.fr 2
  have H := Lib.hid h; clear h
  have fin : ∀ d, Lk (w.setCell ⟨b, 2, none⟩ (.bool d)) b p q d := fun d => H.out.set2 d
  have F := Lib.hid fin; clear fin
  cases bad
  · go_enter Tryz.func35, Tryz.ntmps35
    go_wp2_with fail
    go_end0
    exact ⟨rfl, by simpa using F.out _, grown_setCell _ _ _ _⟩
  · go_enter Tryz.func35, Tryz.ntmps35
    go_wp2_with fail
    go_end0
    exact ⟨rfl, by simpa using F.out _, grown_setCell _ _ _ _⟩

theorem part_any {b : Nat} {p q : Int} {bad : Bool} (d : Int) {w : World} (h : Lk w b p q bad) (ok : Ok p q bad) :
    Calls Tryz.prog 34 #[.pointer (some ⟨b, 0, none⟩), .int .i64 d] w (LkPost b w fun v p' q' bad' => v = .bool !bad' ∧ q = q' ∧ (bad' = false → bad = false ∧ p' = p + 1 ∧ p' ≤ 400 ∧ q ≤ 2000 ∧ d ≤ 60)) := by
  have h0 := h.c0
  have h1 := h.c1
  have hf := h.fr 0
  have H := Lib.hid h; clear h
  have O := Lib.hid ok; clear ok
  have S := Lib.hid (H.out.set0 (wrap64 (p + 1)))
  have G := Lib.hid (grown_setCell w b 0 (.int .i64 (wrap64 (p + 1))))
  go_enter Tryz.func34, Tryz.ntmps34
  go_wp2_with fail
  all_goals
    refine (want_any _ S.out).mono ?_
    rintro e w1 ⟨rfl, hL, hg⟩
    have k2 := hL.c2
    have L1 := Lib.hid hL
    have G1 := Lib.hid hg
    clear hL hg
    go_wp2_with fail
    go_ret
    refine ⟨_, _, _, _, rfl, L1.out, G.out.trans G1.out, ?_, rfl, ?_⟩
    · simp
    · intro hb
      simp at hb
      try
        obtain ⟨hb1, hb2⟩ := hb
        have := O.out hb1
        have e : wrap64 (p + 1) = p + 1 := by unfold wrap64; omega
        exact ⟨hb1, e, by omega, by omega, by omega⟩

theorem str_any {B b : Nat} {p q : Int} {bad : Bool} (s : ByteArray) {w : World} (h : Lk w b p q bad) (ok : Ok p q bad) (hs : s.size ≤ 140737488351232) (hT : Tabs w) (h40 : LB ≤ B) (hB : B ≤ b) :
    Calls Tryz.prog 36 #[.pointer (some ⟨b, 0, none⟩), .string s] w (LkPost b w fun v p' q' bad' => v = .tuple #[] ∧ p = p' ∧ (bad' = false → bad = false ∧ q' = q + s.size ∧ q' ≤ 2000)) := by
  have h1 := h.c1
  have hf := h.fr 1
  have H := Lib.hid h; clear h
  have O := Lib.hid ok; clear ok
  have S := Lib.hid (H.out.set1 (wrap64 (q + s.size)))
  have G := Lib.hid (grown_setCell w b 1 (.int .i64 (wrap64 (q + s.size))))
  have T1 := Lib.hid (hT.below (below_of_grown G.out hB (by have := H.out.lt; omega)) h40); clear hT
  go_enter Tryz.func36, Tryz.ntmps36
  go_wp2_with fail
  · refine (valid_any s _ hs T1.out).mono ?_
    rintro e w1 ⟨rfl, hg⟩
    have S1 := S.out.kept hg S.out.lt
    have G1 := Lib.hid (G.out.trans (grown_of_below hg _))
    clear hg
    have S2 := Lib.hid S1; clear S1
    go_wp2_with fail
    refine (want_any _ S2.out).mono ?_
    rintro e w2 ⟨rfl, hL, hg⟩
    have L1 := Lib.hid hL
    have G2 := Lib.hid hg
    clear hL hg
    go_wp2_with fail
    go_end0
    refine ⟨_, _, _, _, rfl, L1.out, G1.out.trans G2.out, rfl, rfl, ?_⟩
    intro hb
    simp at hb
    have := O.out hb.1
    have e : wrap64 (q + s.size) = q + s.size := by unfold wrap64; omega
    exact ⟨hb.1, e, by omega⟩
  · refine (want_any _ S.out).mono ?_
    rintro e w2 ⟨rfl, hL, hg⟩
    have L1 := Lib.hid hL
    have G2 := Lib.hid hg
    clear hL hg
    go_wp2_with fail
    go_end0
    refine ⟨_, _, _, _, rfl, L1.out, G.out.trans G2.out, rfl, rfl, ?_⟩
    intro hb
    simp at hb
end Go.Proofs.YtnaijgdffbfapaaGreatDoor
