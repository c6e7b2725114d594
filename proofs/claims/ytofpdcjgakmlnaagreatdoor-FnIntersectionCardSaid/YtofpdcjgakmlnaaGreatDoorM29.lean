/- A part of the proof. A part of the proof. -/
import Derived.Test.YtofpdcjgakmlnaaGreatDoorM23
import Derived.Test.YtofpdcjgakmlnaaGreatDoorZARow
import Derived.Laws.MakeOwn
import Derived.LoopTactic
import Derived.WalkMore
namespace Go.Proofs.YtofpdcjgakmlnaaGreatDoor
open Go.RowKit Go.Shelf Go.Lib

/-- Those of l that equal none of r. -/
def subJ (N : Nat) (l r : List J) : List J := l.filter fun x => r.all fun y => cmpN N x y != 0
theorem subJ_yes {N : Nat} {l r : List J} {k : Nat} (h : k < l.length) (hy : ∀ q (_ : q < r.length), cmpN N l[k] r[q] ≠ 0) : subJ N (l.take (k + 1)) r = subJ N (l.take k) r ++ [l[k]] := by
  unfold subJ
  rw [List.take_add_one, List.getElem?_eq_getElem h, List.filter_append]
  have : (r.all fun y => cmpN N l[k] y != 0) = true := by
    rw [List.all_eq_true]
    intro y hy'
    obtain ⟨q, hq, rfl⟩ := List.getElem_of_mem hy'
    simpa using hy q hq
  simp [this]
theorem subJ_no {N : Nat} {l r : List J} {k q : Nat} (h : k < l.length) (hq : q < r.length) (hy : cmpN N l[k] r[q] = 0) : subJ N (l.take (k + 1)) r = subJ N (l.take k) r := by
  unfold subJ
  rw [List.take_add_one, List.getElem?_eq_getElem h, List.filter_append]
  have : (r.all fun y => cmpN N l[k] y != 0) = false := by
    rw [List.all_eq_false]
    exact ⟨r[q], List.getElem_mem hq, by simp [hy]⟩
  simp [this]
theorem subJ_len (N : Nat) (l r : List J) (k : Nat) : (subJ N (l.take k) r).length ≤ l.length :=
  Nat.le_trans (List.length_filter_le _ _) (by simp; omega)

set_option maxRecDepth 100000 in
set_option maxHeartbeats 2000000 in
theorem sub5_any (N : Nat) (l r : List J) (a1 a2 : Option Addr) (c1 c2 : Nat) (w : World) (S : Nat → Prop) (hl : l.length ≤ 400) (hr : r.length ≤ 400) (hN : ∀ x ∈ l, SizeOf.sizeOf x ≤ N) (ok1 : ∀ x ∈ l, JOK x) (ok2 : ∀ x ∈ r, JOK x) (hS : ∀ b, S b → b < w.heap.size)
    (e1 : ∀ i (_ : i < l.length), ∃ b o x, a1 = some ⟨b, o, none⟩ ∧ S b ∧ w.cell? ⟨b, o + i, none⟩ = some x ∧ JR w S l[i] x) (e2 : ∀ i (_ : i < r.length), ∃ b o x, a2 = some ⟨b, o, none⟩ ∧ S b ∧ w.cell? ⟨b, o + i, none⟩ = some x ∧ JR w S r[i] x) :
    Calls Tryz.prog 35 #[.slice a1 l.length c1, .slice a2 r.length c2] w fun e w' => (∃ v xs, e = .returned (.iface 48 v) ∧ ARow w.heap.size S (subJ N l r) v xs w') ∧ Below w.heap.size w w' := by
  obtain ⟨i0, hi, hz0, hz1, hz2⟩ := info_parts info_any
  obtain ⟨w0, hmk, hown, hgr⟩ := run_make_own (P := Tryz.prog) w w.heap.size 48 20 i0 .nilIface 1 Tryz.underlying48 hi hz0 hz1 .i64 .i64 l.length (by rw [hz2]; omega) (by unfold maxLen; omega) (Nat.le_refl _)
  have B0 := Lib.hid ((Below.refl w.heap.size w).grown hgr (Nat.le_refl _) (fun k e => by cases e))
  have A0 : Hid (ARow w.heap.size S [] (.slice (some ⟨w.heap.size, 0, none⟩) 0 l.length) [] w0) := Lib.hid ⟨hown, rfl, fun i hi => absurd hi (Nat.not_lt_zero i)⟩
  have I0 := Lib.hid hi; have I1 := Lib.hid hz0; have I2 := Lib.hid hz1; have I3 := Lib.hid hz2
  have HS := Lib.hid hS; have HN := Lib.hid hN; have O1 := Lib.hid ok1; have O2 := Lib.hid ok2; have E1 := Lib.hid e1; have E2 := Lib.hid e2
  clear hi hz0 hz1 hz2 hown hgr hS hN ok1 ok2 e1 e2
  go_enter Tryz.func35, Tryz.ntmps35
  go_wp2_with fail
  go_step3
  go_wp2_with (first | simp only [hmk])
  go_step3
  go_wp2_with fail
  clear hmk
  go_loopw [5, 15] (fun out i wr => ∃ (k : Nat) (xs : List Value) (la : Option Addr) (lc : Nat), out = .slice la xs.length lc ∧ i = .int .i64 k ∧ k ≤ l.length ∧ ARow w.heap.size S (subJ N (l.take k) r) out xs wr ∧ Below w.heap.size w wr) (fun _ i _ => l.length - (intOf i).toNat)
  case atStart => exact ⟨0, [], _, _, rfl, rfl, Nat.zero_le _, A0.out, B0.out⟩
  case round =>
    rename World => wo
    obtain ⟨k, xs, la, lc, rfl, rfl, hk, hG, hb⟩ := hrel
    have hx400 : xs.length ≤ 400 := by have := subJ_len N l r k; have := hG.2.1; omega
    have GG := Lib.hid hG; have WB := Lib.hid hb
    clear hG hb A0 B0
    have sz := WB.out.size
    by_cases hlt : k < l.length
    · obtain ⟨b1, o1, x, ha, hb1, hc1, hx⟩ := E1.out k hlt
      subst ha
      have cx := (WB.out.cell (p := ⟨b1, o1 + k, none⟩) (HS.out b1 hb1)).trans hc1
      have form := hx.form
      have XJ := Lib.hid hx
      clear hc1 hx hb1
      rcases form with rfl | ⟨t', u, rfl⟩
      · go_wp2_with fail
        go_loopw [21] (fun j w' => ∃ m : Nat, j = .int .i64 m ∧ m ≤ r.length ∧ (∀ q (_ : q < r.length), q < m → cmpN N l[k] r[q] ≠ 0) ∧ Below wo.heap.size wo w') (fun j _ => r.length - (intOf j).toNat)
        case atStart => exact ⟨0, rfl, Nat.zero_le _, fun q _ h => absurd h (Nat.not_lt_zero q), Below.refl _ _⟩
        case round =>
          obtain ⟨m, rfl, hm, hne, hbq⟩ := hrel
          have NE := Lib.hid hne; have BQ := Lib.hid hbq
          have szq := hbq.size
          have WQ := Lib.hid (WB.out.trans (hbq.mono sz))
          clear hne hbq cx
          by_cases hlm : m < r.length
          · obtain ⟨b2, o2, y, ha2, hb2, hc2, hy⟩ := E2.out m hlm
            subst ha2
            have cy := (WQ.out.cell (p := ⟨b2, o2 + m, none⟩) (HS.out b2 hb2)).trans hc2
            have C := Lib.hid (Compare_any N l[k] r[m] .nilIface y S _ (HN.out _ (List.getElem_mem hlt)) (O1.out _ (List.getElem_mem hlt)) (O2.out _ (List.getElem_mem hlm)) (XJ.out.go (fun b h => WQ.out.block b (HS.out b h)) (fun _ h => h)) (hy.go (fun b h => WQ.out.block b (HS.out b h)) (fun _ h => h)) (fun b h => Nat.lt_of_lt_of_le (HS.out b h) WQ.out.size))
            clear hc2 hy hb2
            go_wp2_with fail
            refine C.out.mono ?_
            rintro e w2 ⟨rfl, hb2⟩
            have W2 := Lib.hid (WQ.out.trans (hb2.mono WQ.out.size))
            have B2 := Lib.hid (BQ.out.trans (hb2.mono BQ.out.size))
            clear hb2 C cy
            by_cases hc : cmpN N l[k] r[m] = 0
            · have SJ := Lib.hid (subJ_no hlt hlm hc)
              rw [hc]
              clear hc
              go_wp2_with fail
              go_roundw
              case rel =>
                exact ⟨k + 1, xs, la, lc, rfl, by go_num, by omega, by rw [SJ.out]; exact GG.out.below B2.out HS.out sz, W2.out⟩
              case measure => simp [intOf]; omega
            · have hcb : (cmpN N l[k] r[m] == 0) = false := by simp [hc]
              have NZ := Lib.hid hc
              clear hc
              go_wp2_with fail
              go_roundw
              case rel =>
                refine ⟨m + 1, by go_num, by omega, fun q hq hqm => ?_, B2.out⟩
                rcases Nat.lt_or_ge q m with h | h
                · exact NE.out q hq h
                · obtain rfl : q = m := by omega
                  exact NZ.out
              case measure => simp [intOf]; omega
          · have hml : m = r.length := by omega
            subst hml
            have SJ := Lib.hid (subJ_yes hlt fun q hq => NE.out q hq hq)
            have G0 := Lib.hid (GG.out.below BQ.out HS.out sz)
            have bl := WQ.out.size
            go_wp2_with (at_builtin; refine wpList_append_lies _ rfl _ _ 48 rfl w.heap.size 20 i0 .nilIface 1 16 Tryz.underlying48 I0.out I1.out I2.out I3.out rfl (by omega) (.slice la xs.length lc) xs.length xs rfl (G0.out.1.alloc _) ⟨wr.heap.size, 0, none⟩ 1 1 [.nilIface] rfl rfl (news_one wr _ _) (by simp; rfl) (by omega) (by unfold maxLen; omega) (by omega) (by simp; omega) (wr.heap.size + 1) (by simp) ?_; intro g cp w3 hown3 hgrow hat hlt3; have OW := Lib.hid hown3; have GW := Lib.hid hgrow; clear hown3 hgrow hat)
            go_roundw
            case rel =>
              have hb1 : Below wr.heap.size wr (wr.alloc (.cells #[.nilIface] 20)) := (Below.refl _ _).alloc (Nat.le_refl _) _
              have G1 := G0.out.below hb1 HS.out bl
              have hfin := G1.one ((XJ.out.go (fun b h => WQ.out.block b (HS.out b h)) (fun _ h => h)).go (fun b hb => hb1.block b (by have := HS.out b hb; omega)) (fun _ h => h)) OW.out GW.out HS.out (by simp; omega)
              rw [← SJ.out] at hfin
              refine ⟨k + 1, xs ++ [.nilIface], some ⟨g, 0, none⟩, cp, by simp, by go_num, by omega, by simpa using hfin, ?_⟩
              exact (WQ.out.trans (hb1.mono bl)).grown GW.out (by simp; omega) (fun k hk => (G0.out.1.lt k hk).1)
            case measure => simp [intOf]; omega
      · go_wp2_with fail
        go_loopw [21] (fun j w' => ∃ m : Nat, j = .int .i64 m ∧ m ≤ r.length ∧ (∀ q (_ : q < r.length), q < m → cmpN N l[k] r[q] ≠ 0) ∧ Below wo.heap.size wo w') (fun j _ => r.length - (intOf j).toNat)
        case atStart => exact ⟨0, rfl, Nat.zero_le _, fun q _ h => absurd h (Nat.not_lt_zero q), Below.refl _ _⟩
        case round =>
          obtain ⟨m, rfl, hm, hne, hbq⟩ := hrel
          have NE := Lib.hid hne; have BQ := Lib.hid hbq
          have szq := hbq.size
          have WQ := Lib.hid (WB.out.trans (hbq.mono sz))
          clear hne hbq cx
          by_cases hlm : m < r.length
          · obtain ⟨b2, o2, y, ha2, hb2, hc2, hy⟩ := E2.out m hlm
            subst ha2
            have cy := (WQ.out.cell (p := ⟨b2, o2 + m, none⟩) (HS.out b2 hb2)).trans hc2
            have C := Lib.hid (Compare_any N l[k] r[m] (.iface t' u) y S _ (HN.out _ (List.getElem_mem hlt)) (O1.out _ (List.getElem_mem hlt)) (O2.out _ (List.getElem_mem hlm)) (XJ.out.go (fun b h => WQ.out.block b (HS.out b h)) (fun _ h => h)) (hy.go (fun b h => WQ.out.block b (HS.out b h)) (fun _ h => h)) (fun b h => Nat.lt_of_lt_of_le (HS.out b h) WQ.out.size))
            clear hc2 hy hb2
            go_wp2_with fail
            refine C.out.mono ?_
            rintro e w2 ⟨rfl, hb2⟩
            have W2 := Lib.hid (WQ.out.trans (hb2.mono WQ.out.size))
            have B2 := Lib.hid (BQ.out.trans (hb2.mono BQ.out.size))
            clear hb2 C cy
            by_cases hc : cmpN N l[k] r[m] = 0
            · have SJ := Lib.hid (subJ_no hlt hlm hc)
              rw [hc]
              clear hc
              go_wp2_with fail
              go_roundw
              case rel =>
                exact ⟨k + 1, xs, la, lc, rfl, by go_num, by omega, by rw [SJ.out]; exact GG.out.below B2.out HS.out sz, W2.out⟩
              case measure => simp [intOf]; omega
            · have hcb : (cmpN N l[k] r[m] == 0) = false := by simp [hc]
              have NZ := Lib.hid hc
              clear hc
              go_wp2_with fail
              go_roundw
              case rel =>
                refine ⟨m + 1, by go_num, by omega, fun q hq hqm => ?_, B2.out⟩
                rcases Nat.lt_or_ge q m with h | h
                · exact NE.out q hq h
                · obtain rfl : q = m := by omega
                  exact NZ.out
              case measure => simp [intOf]; omega
          · have hml : m = r.length := by omega
            subst hml
            have SJ := Lib.hid (subJ_yes hlt fun q hq => NE.out q hq hq)
            have G0 := Lib.hid (GG.out.below BQ.out HS.out sz)
            have bl := WQ.out.size
            go_wp2_with (at_builtin; refine wpList_append_lies _ rfl _ _ 48 rfl w.heap.size 20 i0 .nilIface 1 16 Tryz.underlying48 I0.out I1.out I2.out I3.out rfl (by omega) (.slice la xs.length lc) xs.length xs rfl (G0.out.1.alloc _) ⟨wr.heap.size, 0, none⟩ 1 1 [(.iface t' u)] rfl rfl (news_one wr _ _) (by simp; rfl) (by omega) (by unfold maxLen; omega) (by omega) (by simp; omega) (wr.heap.size + 1) (by simp) ?_; intro g cp w3 hown3 hgrow hat hlt3; have OW := Lib.hid hown3; have GW := Lib.hid hgrow; clear hown3 hgrow hat)
            go_roundw
            case rel =>
              have hb1 : Below wr.heap.size wr (wr.alloc (.cells #[(.iface t' u)] 20)) := (Below.refl _ _).alloc (Nat.le_refl _) _
              have G1 := G0.out.below hb1 HS.out bl
              have hfin := G1.one ((XJ.out.go (fun b h => WQ.out.block b (HS.out b h)) (fun _ h => h)).go (fun b hb => hb1.block b (by have := HS.out b hb; omega)) (fun _ h => h)) OW.out GW.out HS.out (by simp; omega)
              rw [← SJ.out] at hfin
              refine ⟨k + 1, xs ++ [(.iface t' u)], some ⟨g, 0, none⟩, cp, by simp, by go_num, by omega, by simpa using hfin, ?_⟩
              exact (WQ.out.trans (hb1.mono bl)).grown GW.out (by simp; omega) (fun k hk => (G0.out.1.lt k hk).1)
            case measure => simp [intOf]; omega
    · have hkl : k = l.length := by omega
      subst hkl
      go_wp2_with fail
      rw [Exit.noGoto_ret]
      go_ret
      have := GG.out
      rw [List.take_length] at this
      exact ⟨⟨_, xs, rfl, this⟩, WB.out⟩
end Go.Proofs.YtofpdcjgakmlnaaGreatDoor

namespace Go.Proofs.YtofpdcjgakmlnaaGreatDoor
open Go.RowKit Go.Shelf Go.Lib

set_option maxRecDepth 100000 in
set_option maxHeartbeats 1000000 in
/-- A binary operator at two arrays: its fifth function decides. -/
theorem binop_subs (v1 v2 : Value) (f2 f3 f4 f5 f7 f8 : Value) (w : World) (R : Value → World → Prop) (h : Calls Tryz.prog 35 #[v1, v2] w fun e w' => ∃ v, e = .returned (.iface 48 v) ∧ R v w') :
    Calls Tryz.prog 28 #[.iface 48 v1, .iface 48 v2, f2, f3, f4, f5, .func (.func 35) #[] #[], f7, f8] w fun e w' => ∃ v, e = .returned (.iface 48 v) ∧ R v w' := by
  have H := Lib.hid h
  clear h
  go_enter Tryz.func28, Tryz.ntmps28
  go_wp2_with fail
  refine H.out.mono ?_
  rintro e w' ⟨v, rfl, hR⟩
  have HR := Lib.hid hR
  clear hR
  go_wp2_with fail
  go_ret
  exact ⟨v, rfl, HR.out⟩

set_option maxRecDepth 100000 in
/-- One array without another. -/
theorem funcOpSub_arr {w : World} {S : Nat → Prop} (N : Nat) {l r : List J} {v1 v2 : Value} (h1 : JR w S (.arr l) v1) (h2 : JR w S (.arr r) v2) (hl : l.length ≤ 400) (hr : r.length ≤ 400) (hN : ∀ x ∈ l, SizeOf.sizeOf x ≤ N) (ok1 : ∀ x ∈ l, JOK x) (ok2 : ∀ x ∈ r, JOK x) (hS : ∀ b, S b → b < w.heap.size) :
    Calls Tryz.prog 19 #[.nilIface, v1, v2] w (GIn S w (.value (.arr (subJ N l r)))) := by
  obtain ⟨a1, c1, rfl, el1⟩ := h1.arr
  obtain ⟨a2, c2, rfl, el2⟩ := h2.arr
  have U := Lib.hid fun f2 f3 f4 f5 f7 f8 => binop_subs (.slice a1 l.length c1) (.slice a2 r.length c2) f2 f3 f4 f5 f7 f8 w (fun v w' => (∃ xs, ARow w.heap.size S (subJ N l r) v xs w') ∧ Below w.heap.size w w')
    ((sub5_any N l r a1 a2 c1 c2 w S hl hr hN ok1 ok2 hS el1 el2).mono fun e w' ⟨⟨v, xs, he, hA⟩, hb⟩ => ⟨v, he, ⟨xs, hA⟩, hb⟩)
  clear h1 h2 el1 el2 hN ok1 ok2 hS
  go_enter Tryz.func19, Tryz.ntmps19
  go_wp2_with (go_at_call 28; refine (U.out _ _ _ _ _ _).mono ?_; rintro e w1 ⟨v, rfl, hA, hb⟩)
  obtain ⟨xs, hA⟩ := hA
  have HA := Lib.hid hA
  have HB := Lib.hid hb
  clear hA hb
  go_wp2_with fail
  go_ret
  obtain ⟨a', cap', rfl⟩ := row_form HA.out.1
  exact ⟨_, rfl, HA.out.jr HA.out.2.1, HB.out⟩
end Go.Proofs.YtofpdcjgakmlnaaGreatDoor
