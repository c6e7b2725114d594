/- impl.listFromGo: a list of plain Go values becomes a list of Values that read the same. -/
import Derived.Test.YtbdciilkapgfjaaGreatDoorZRow
import Derived.Test.YtbdciilkapgfjaaGreatDoorM10
import Derived.Test.YtbdciilkapgfjaaGreatDoorM22
import Derived.LoopTactic
namespace Go.Proofs.YtbdciilkapgfjaaGreatDoor
open Go.RowKit

/-- What fromGo leaves: the value as plain data, in new memory. -/
def FromGoPost (w : World) (j : J) (e : Ending) (w' : World) : Prop :=
  ∃ c, e = .returned (.tuple #[VC.val c, .bool true]) ∧ VR w' (New w.heap.size w') j c ∧ Below w.heap.size w w'

theorem news_two (w : World) (o : Obj) (c : VC) (t : TypeId) : ∀ j u, c.arr.toList[j]? = some u → ((w.alloc o).alloc (.cells c.arr t)).cell? ((⟨w.heap.size + 1, 0, none⟩ : Addr).add j) = some u := by
  have h := heap_alloc_new (w.alloc o) (.cells c.arr t)
  rw [World.size_alloc] at h
  exact World.news_of_block h

/-- A list read out of a row. -/
theorem Got.vr {lo lo' : Nat} {l : List J} {a : Option Addr} {cap : Nat} {xs : List VC} {w : World} (h : Got lo l (.slice a xs.length cap) xs w) (hx : xs.length = l.length) (hlo : lo' ≤ lo) (c : VC) (hk : c.k = 5) (hh : c.h = 0) (hs : c.s = ByteArray.empty) (ha : c.la = a) (hl : c.ll = xs.length) (hkl : c.kl = 0) (hvl : c.vl = 0) (hlc : c.lc = cap) (hkc : c.kc = 0) (hvc : c.vc = 0) :
    VR w (New lo' w) (.arr l) c := by
  rw [VR]
  refine ⟨⟨hk, hh, hs, by rw [hl, hx]; rfl, hkl, hvl, by rw [hl, hlc]; exact own_cap h.1, by rw [hkl]; exact Nat.zero_le _, by rw [hvl]; exact Nat.zero_le _, by rw [ha, hlc]; exact own_none h.1, fun _ => hkc, fun _ => hvc⟩, fun i hi => ?_, fun i hi => ?_, fun i hi => ?_⟩
  · have hi' : i < l.length := hi
    have hx' : i < xs.length := by omega
    obtain ⟨g, cap', e, hg, hlt⟩ := h.1.form (by omega)
    cases e
    have h6 := row_at6 h.1 (g := g) rfl hx'
    refine ⟨g, 0, xs[i], ha, ⟨by omega, hlt⟩, by simpa using h6, ?_⟩
    exact (h.2 i hi' hx').mono (fun b hb => ⟨by have := hb.1.1; omega, hb.1.2⟩)
  · simp [J.ents] at hi
  · simp [J.ents] at hi

set_option maxRecDepth 100000 in
set_option maxHeartbeats 1000000 in
theorem listFromGo_any {S : Nat → Prop} {l : List J} {a : Option Addr} {cap : Nat} {w : World} (hl : l.length ≤ 1000000) (hS : ∀ b, S b → b < w.heap.size)
    (helem : ∀ i (_ : i < l.length), ∃ b o x, a = some ⟨b, o, none⟩ ∧ S b ∧ w.cell? ⟨b, o + i, none⟩ = some x ∧ JR w S l[i] x)
    (ih : ∀ i (_ : i < l.length) (x : Value) (w' : World) (S' : Nat → Prop), JR w' S' l[i] x → (∀ b, S' b → b < w'.heap.size) → Calls Tryz.prog 15 #[x] w' (FromGoPost w' l[i])) :
    Calls Tryz.prog 20 #[.slice a l.length cap] w (FromGoPost w (.arr l)) := by
  obtain ⟨i0, hi, hz0, hz1, hz2⟩ := info_parts info_value
  have he := Lib.hid helem; have IHH := Lib.hid ih; have HS := Lib.hid hS
  have N0 := Lib.hid (box_alloc w VC.nil)
  have N1 := Lib.hid (box_alloc (w.alloc (.cells VC.nil.arr 26)) ⟨5, 0, ByteArray.empty, none, 0, 0, none, 0, 0, none, 0, 0⟩)
  have I0 := Lib.hid hi; have I1 := Lib.hid hz0; have I2 := Lib.hid hz1; have I3 := Lib.hid hz2
  clear helem ih hS hi hz0 hz1 hz2
  unfold VC.nil VC.arr at N0 N1
  go_enter Tryz.func20, Tryz.ntmps20
  go_wp2_with fail
  go_loopw [12] (fun i wr => ∃ (xs : List VC) (la : Option Addr) (lc : Nat), i = .int .i64 xs.length ∧ xs.length ≤ l.length ∧ Box wr (w.heap.size + 1) ⟨5, 0, ByteArray.empty, la, xs.length, lc, none, 0, 0, none, 0, 0⟩ ∧ Box wr w.heap.size VC.nil ∧ Below w.heap.size w wr ∧ Got (w.heap.size + 2) l (.slice la xs.length lc) xs wr) (fun i _ => l.length - (intOf i).toNat)
  case atStart =>
    refine ⟨[], none, 0, rfl, Nat.zero_le _, ?_, ?_, ((Below.refl _ _).alloc (Nat.le_refl _) _).alloc (by simp) _, Got.nil _ _ _⟩
    · have h := N1.out
      rw [World.size_alloc] at h
      exact h
    · exact N0.out.below ((Below.refl _ _).alloc (Nat.le_refl _) _) (by simp)
  case round =>
    obtain ⟨xs, la, lc, rfl, hm, hB1, hB0, hb, hG⟩ := hrel
    have X1 := Lib.hid hB1; have X0 := Lib.hid hB0; have WB := Lib.hid hb; have GG := Lib.hid hG
    clear hB1 hB0 hb hG
    by_cases hlt : xs.length < l.length
    · obtain ⟨b1, o1, x, ha, hb1, hc, hx⟩ := he.out xs.length hlt
      subst ha
      have hc' := (WB.out.cell (p := ⟨b1, o1 + xs.length, none⟩) (HS.out b1 hb1)).trans hc
      have sz := WB.out.size
      have form := hx.form
      have IH := Lib.hid (IHH.out xs.length hlt x wr S (hx.go ((fun b hb => WB.out.block b (HS.out b hb)) : Same S w wr) (fun _ h => h)) (fun b hb => by have := HS.out b hb; omega))
      clear hc hx sz
      rcases form with rfl | ⟨t', u, rfl⟩
      all_goals
        go_wp2_with fail
        refine IH.out.mono ?_
        rintro e w2 ⟨c, rfl, hV, hb2⟩
        have x1 := X1.out.below hb2 X1.out.lt
        have x0 := X0.out.below hb2 X0.out.lt
        have p3 := x1.c3
        have G2 := Lib.hid (GG.out.below hb2)
        have HV := Lib.hid hV; have HB2 := Lib.hid hb2; have Y1 := Lib.hid x1; have Y0 := Lib.hid x0
        have lt1 := x1.lt
        clear x1 x0 hV hb2 hc'
        obtain ⟨k9, h9, s9, la9, ll9, lc9, ka9, kl9, kc9, va9, vl9, vc9⟩ := c
        unfold VC.val VC.arr
        go_wp2_with (at_builtin; refine wpList_append_lies _ rfl _ _ 23 rfl (w.heap.size + 2) 26 i0 zeroVC 6 104 Tryz.underlying23 I0.out I1.out I2.out I3.out rfl (by omega) (.slice la xs.length lc) xs.length (cellsOf xs) rfl ((G2.out.1.alloc _).alloc _) ⟨w2.heap.size + 1, 0, none⟩ 1 1 (VC.arr ⟨k9, h9, s9, la9, ll9, lc9, ka9, kl9, kc9, va9, vl9, vc9⟩).toList rfl rfl (news_two w2 _ _ _) (arr_cells _) (by omega) (by unfold maxLen; omega) (by omega) (by simp; omega) (w2.heap.size + 2) (by simp) ?_; intro g cp w3 hown3 hgrow hat hlt3; have y1 := Y1.out.behind G2.out.1 (by omega) hgrow; have y0 := Y0.out.behind G2.out.1 (by omega) hgrow; have p3' := y1.c3; have f3 := y1.fr; have lt3 := y1.lt; have OW := Lib.hid hown3; have GW := Lib.hid hgrow; have AT := Lib.hid hat; have Z1 := Lib.hid y1; have Z0 := Lib.hid y0; clear hown3 hgrow hat y1 y0)
        go_roundw
        case rel =>
          have hb23 : Below w2.heap.size w2 ((w2.alloc (.cells (VC.arr ⟨k9, h9, s9, la9, ll9, lc9, ka9, kl9, kc9, va9, vl9, vc9⟩) 26)).alloc (.cells (VC.arr ⟨k9, h9, s9, la9, ll9, lc9, ka9, kl9, kc9, va9, vl9, vc9⟩) 26)) := ((Below.refl _ _).alloc (Nat.le_refl _) _).alloc (by simp) _
          have hst := (G2.out.below hb23).step (c := ⟨k9, h9, s9, la9, ll9, lc9, ka9, kl9, kc9, va9, vl9, vc9⟩) (lo' := wr.heap.size) hlt OW.out rfl GW.out AT.out (by simp) (by have := X1.out.lt; omega) (fun k hk => (GG.out.1.lt k hk).2) (HV.out.go (fun b hb => hb23.block b hb.2) (fun b hb => ⟨hb.1, Nat.lt_of_lt_of_le hb.2 hb23.size⟩))
          have hbl : Below w.heap.size w w3 := ((WB.out.trans (HB2.out.mono WB.out.size)).trans (hb23.mono (Nat.le_trans WB.out.size HB2.out.size))).grown GW.out (by simp; have := WB.out.size; have := HB2.out.size; omega) (fun k hk => by have := (GG.out.1.lt k hk).1; omega)
          refine ⟨xs ++ [⟨k9, h9, s9, la9, ll9, lc9, ka9, kl9, kc9, va9, vl9, vc9⟩], some ⟨g, 0, none⟩, cp, by simp, by simp; omega, ?_, Z0.out.far _ (by simp), hbl.setCell (by simp) _, ?_⟩
          · simpa using Z1.out.set3 (some ⟨g, 0, none⟩) (xs.length + 1) cp
          · have := hst.cell (a := ⟨w.heap.size + 1, 3, none⟩) (by simp) (.slice (some ⟨g, 0, none⟩) (xs.length + 1) cp)
            simpa using this
        case measure => simp [intOf]; omega
    · have n0 := X1.out.c0; have n1 := X1.out.c1; have n2 := X1.out.c2; have n3 := X1.out.c3; have n4 := X1.out.c4; have n5 := X1.out.c5
      have m0 := X0.out.c0; have m1 := X0.out.c1; have m2 := X0.out.c2; have m3 := X0.out.c3; have m4 := X0.out.c4; have m5 := X0.out.c5; have mf := X0.out.fr; have lt0 := X0.out.lt
      simp only [VC.nil] at m0 m1 m2 m3 m4 m5
      go_wp2_with fail
      refine bodyPost_ret (v := .tuple #[.agg #[.int .i64 5, .int .i64 0, .string ByteArray.empty, .slice la xs.length lc, .slice none 0 0, .slice none 0 0], .bool true]) (by simp [results, Tryz.results20, go_sem, m0, m1, m2, m3, m4, m5]) rfl ?_
      have hx : xs.length = l.length := by omega
      show FromGoPost w (.arr l) (.returned (.tuple #[VC.val ⟨5, 0, ByteArray.empty, la, xs.length, lc, none, 0, 0, none, 0, 0⟩, .bool true])) (valStored wr w.heap.size ⟨5, 0, ByteArray.empty, la, xs.length, lc, none, 0, 0, none, 0, 0⟩)
      exact ⟨_, rfl, (GG.out.vr hx (Nat.le_refl _) ⟨5, 0, ByteArray.empty, la, xs.length, lc, none, 0, 0, none, 0, 0⟩ rfl rfl rfl rfl rfl rfl rfl rfl rfl rfl).stored (by omega) (by omega), valStored_below WB.out (Nat.le_refl _)⟩
end Go.Proofs.YtbdciilkapgfjaaGreatDoor
