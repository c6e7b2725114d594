/- A part of the proof. A part of the proof. A part of the proof. -/
import Derived.Test.YtfgmegfgifeaiaaGreatDoorM31
import Derived.RangeFuncIn
import Derived.Test.YtfgmegfgifeaiaaGreatDoorM20
import Derived.Test.YtfgmegfgifeaiaaGreatDoorM33
import Derived.Test.YtfgmegfgifeaiaaGreatDoorM12
import Derived.Test.YtfgmegfgifeaiaaGreatDoorM6
import Derived.Deep.RegionWith
namespace Go.Proofs.YtfgmegfgifeaiaaGreatDoor
open Go.RowKit Go.Shelf
attribute [local go_sem] Oper.semAt_some

/-- What the package's add gives: in new memory and blocks of S. -/
def SumVal (S : Nat → Prop) (N : Nat) (o : Out) (v : Value) (W : World) : Prop :=
  match o with
  | .raises => IsErr v
  | .silent => IsErr v ∨ ∃ k : Kd, v = k.val ∧ k.num (Bnd 400)
  | .value (.num a) => ∃ k : Kd, v = k.val ∧ k.num (Bnd 400) ∧ k.is a ∧ Fits53 a
  | .value j => JR W (fun b => S b ∨ New N W b) j v
def SumPost (S : Nat → Prop) (w : World) (o : Out) (e : Ending) (w' : World) : Prop :=
  Below w.heap.size w w' ∧ ∃ v, e = .returned v ∧ SumVal S w.heap.size o v w'

theorem bnd_mono {i k : Nat} (h : i ≤ k) : Bnd i ≤ Bnd k := by unfold Bnd; omega
theorem Acc.fin {lo N i : Nat} {S : Nat → Prop} {o : Out} {v : Value} {W : World} (h : Acc lo S i o v W) (hs : ∀ s, o ≠ .value (.str s)) (hi : i ≤ 400) (hlo : N ≤ lo) : SumVal S N o v W := by
  have hb := bnd_mono hi
  cases o with
  | raises => exact h.elim
  | silent => obtain ⟨k, e, h1⟩ := h; exact .inr ⟨k, e, Kd.num_mono h1 hb⟩
  | value j =>
    cases j with
    | null => exact JR.leaf h rfl (fun m e => by cases e)
    | bool b => exact JR.leaf h rfl (fun m e => by cases e)
    | num a => obtain ⟨k, e, h1, h2⟩ := h; exact ⟨k, e, Kd.num_mono h1 hb, h2⟩
    | str s => exact absurd rfl (hs s)
    | arr l =>
      obtain ⟨a, cap, xs, rfl, h1⟩ := h
      exact (h1.jr rfl).mono (fun b hb => hb.imp (fun h => h) (fun h => ⟨by have := h.1; omega, h.2⟩))
    | obj m =>
      obtain ⟨b, mv, rfl, h1, h2, h3, h4⟩ := h
      refine JR.of_obj (.inr ⟨by omega, h2.lt⟩) h2 h3 (fun i hi => ?_)
      obtain ⟨x, e1, e2⟩ := h4 m[i] (List.getElem_mem hi)
      exact ⟨x, e1, e2.mono (fun b hb => .inl hb)⟩
/-- The form of what is not a builder. -/
theorem Acc.form {lo i : Nat} {S : Nat → Prop} {o : Out} {v : Value} {W : World} (h : Acc lo S i o v W) (hs : ∀ s, o ≠ .value (.str s)) :
    v = .nilIface ∨ ∃ t y, v = .iface t y ∧ ∀ w, (Instr.typeAssert (.iface t y) 20 133 true).run Tryz.prog w = .ok (.tuple #[.pointer none, .bool false]) w := by
  have kd : ∀ (k : Kd) (B : Int), k.num B → ∃ t y, k.val = .iface t y ∧ ∀ w, (Instr.typeAssert (.iface t y) 20 133 true).run Tryz.prog w = .ok (.tuple #[.pointer none, .bool false]) w := fun k B hk => by
    cases k with
    | int n => exact ⟨_, _, rfl, as_int_pb _⟩
    | float X => exact ⟨_, _, rfl, as_float_pb _⟩
    | _ => exact hk.elim
  cases o with
  | raises => exact h.elim
  | silent => obtain ⟨k, rfl, h1⟩ := h; exact .inr (kd k _ h1)
  | value j =>
    cases j with
    | null => exact .inl h
    | bool b => exact .inr ⟨_, _, h, as_bool_pb _⟩
    | num a => obtain ⟨k, rfl, h1, _⟩ := h; exact .inr (kd k _ h1)
    | str s => exact absurd rfl (hs s)
    | arr l => obtain ⟨a, cap, xs, rfl, _⟩ := h; exact .inr ⟨_, _, rfl, as_anys_pb _⟩
    | obj m => obtain ⟨b, mv, rfl, _⟩ := h; exact .inr ⟨_, _, rfl, as_map_pb _⟩

theorem addJ_append : ∀ (l l2 : List J) (a : J), addJ a (l ++ l2) = match addJ a l with | .value b => addJ b l2 | o => o
  | [], l2, a => by simp only [List.nil_append, addJ]
  | y :: l, l2, a => by
    simp only [List.cons_append, addJ]
    cases plusJ a y with
    | value b => exact addJ_append l l2 b
    | _ => rfl
theorem addJ_stop {l : List J} {i : Nat} {o : Out} (h : addJ .null (l.take i) = o) (ho : o = .raises ∨ o = .silent) : addJ .null l = o := by
  have e := addJ_append (l.take i) (l.drop i) .null
  rw [List.take_append_drop, h] at e
  rcases ho with rfl | rfl <;> exact e

/-- What lies at the start of a round. -/
def AtRound (w : World) (S : Nat → Prop) (l : List J) (i : Nat) (W : World) : Prop :=
  w.heap.size + 4 ≤ W.heap.size ∧ IBox W w.heap.size .nilIface ∧ (∃ v, IBox W (w.heap.size + 1) v ∧ Acc (w.heap.size + 4) S i (addJ .null (l.take i)) v W) ∧ Below w.heap.size w W
/-- What lies where a round has returned. -/
def AtStop (w : World) (l : List J) (c : Code) (W : World) : Prop :=
  c = .ret ∧ w.heap.size + 4 ≤ W.heap.size ∧ Below w.heap.size w W ∧ (∃ u, IBox W w.heap.size u ∧ IsErr u) ∧ (addJ .null l = .raises ∨ addJ .null l = .silent)

theorem below_putObj {B b : Nat} {w W : World} (h : Below B w W) (hb : B ≤ b) (o : Obj) (hB : B ≤ W.heap.size) : Below B w (W.putObj b o) :=
  h.grown (grownBy_putObj' W b o) hB (fun k hk => by cases hk; exact hb)
theorem AtRound.put {w : World} {S : Nat → Prop} {l : List J} {i : Nat} {W : World} (h : AtRound w S l i W) (hS : ∀ b, S b → b < w.heap.size) (o : Obj) : AtRound w S l i (W.putObj (w.heap.size + 3) o) := by
  obtain ⟨h1, h2, ⟨v, h3, h4⟩, h5⟩ := h
  have hg := grownBy_putObj' W (w.heap.size + 3) o
  refine ⟨Nat.le_trans h1 hg.size, h2.kept hg (fun k hk => by cases hk; omega), ⟨v, h3.kept hg (fun k hk => by cases hk; omega), h4.kept hg (fun k hk => by cases hk; exact ⟨by omega, fun h => by have := hS _ h; omega⟩) (fun b hb => by have := hS b hb; omega)⟩, below_putObj h5 (by omega) o (by omega)⟩
theorem AtStop.put {w : World} {l : List J} {c : Code} {W : World} (h : AtStop w l c W) (o : Obj) : AtStop w l c (W.putObj (w.heap.size + 3) o) := by
  obtain ⟨h1, h2, h3, ⟨u, h4, h5⟩, h6⟩ := h
  have hg := grownBy_putObj' W (w.heap.size + 3) o
  exact ⟨h1, Nat.le_trans h2 hg.size, below_putObj h3 (by omega) o (by omega), ⟨u, h4.kept hg (fun k hk => by cases hk; omega), h5⟩, h6⟩

/-- The frame ahead of the loop. -/
def addAct0 (f : Value) (N : Nat) : Act := { tmps := (f :: undef :: .pointer (some ⟨N, 0, none⟩) :: .pointer (some ⟨N + 1, 0, none⟩) :: undef :: undef :: undef :: undef :: undef :: undef :: undef :: undef :: undef :: undef :: undef :: undef :: undef :: undef :: undef :: undef :: undef :: undef :: undef :: f :: undef :: undef :: undef :: undef :: undef :: undef :: undef :: undef :: undef :: undef :: undef :: undef :: undef :: undef :: undef :: undef :: undef :: undef :: undef :: undef :: undef :: undef :: undef :: undef :: undef :: undef :: undef :: undef :: undef :: undef :: undef :: undef :: undef :: undef :: undef :: undef :: undef :: undef :: undef :: undef :: undef :: undef :: undef :: undef :: undef :: undef :: undef :: undef :: undef :: undef :: undef :: undef :: undef :: undef :: undef :: undef :: undef :: undef :: undef :: undef :: undef :: undef :: undef :: undef :: undef :: undef :: undef :: undef :: undef :: undef :: undef :: undef :: undef :: undef :: undef :: undef :: undef :: undef :: undef :: undef :: []).toArray, defers := [] }

set_option maxRecDepth 100000 in
set_option maxHeartbeats 1000000 in
theorem gadd_any {S : Nat → Prop} {l : List J} {a : Option Addr} {cap Bs : Nat} {vs : List Value} {w : World} (hl : l.length ≤ 400) (hlen : vs.length = l.length) (hj : ∀ x ∈ l, JOK x ∧ x.text.size ≤ 2000) (hok : ∀ i a, addJ .null (l.take i) = .value a → JOK a)
    (hbox : w.cell? ⟨Bs, 0, none⟩ = some (.slice a vs.length cap)) (hBs : Bs < w.heap.size)
    (hel : ∀ i (_ : i < vs.length), ∃ b o, a = some ⟨b, o, none⟩ ∧ b < w.heap.size ∧ w.cell? ⟨b, o + i, none⟩ = some vs[i]) (hJ : ∀ i (_ : i < l.length) (_ : i < vs.length), JR w S l[i] vs[i]) (hS : ∀ b, S b → b < w.heap.size) :
    Calls Tryz.prog 64 #[.func (.func 109) #[] #[.pointer (some ⟨Bs, 0, none⟩)]] w (SumPost S w (addJ .null l)) := by
  refine callsIn_wide (n := 9) |>.1 ?_
  refine callsIn_of_wp_marks Tryz.func64 rfl trivial ?_ rfl
  simp only [Tryz.ntmps64, List.size_toArray, List.length_cons, List.length_nil, Nat.reduceAdd, Nat.reduceSub, Array.replicate_succ, Array.replicate_zero, List.push_toArray, List.append_toArray, List.nil_append, List.cons_append]
  gi_wp2
  obtain ⟨W0, hW0⟩ : ∃ W0, ((w.alloc (.cells #[.nilIface] 20)).alloc (.cells #[.nilIface] 20)) = W0 := ⟨_, rfl⟩
  have hs0 : W0.heap.size = w.heap.size + 2 := by rw [← hW0]; simp
  have hb0 : Below w.heap.size w W0 := by rw [← hW0]; exact ((Below.refl _ _).alloc (Nat.le_refl _) _).alloc (by simp) _
  have x0 : IBox W0 w.heap.size .nilIface := by rw [← hW0]; exact (Below.heap_alloc _ _ _ (by simp)).trans (heap_alloc_at _ _)
  have x1 : IBox W0 (w.heap.size + 1) .nilIface := by
    rw [← hW0]
    have := heap_alloc_at (w.alloc (.cells #[.nilIface] 20)) (.cells #[.nilIface] 20)
    rwa [World.size_alloc] at this
  rw [hW0]
  clear hW0
  refine wpIn_range_values (F := Fence.wide) (n := 9) rfl (by omega) trivial Bs rfl rfl a cap vs (by omega) (fun i W => AtRound w S l i W) (fun c W => AtStop w l c W) ?hI ?hIx ?hbox ?hel ?h0
    (fun x => addAct (.func (.func 109) #[] #[.pointer (some ⟨Bs, 0, none⟩)]) w.heap.size (w.heap.size + 1) x) ?assign ?body ?done ?stop
  case hI => intro i W o h _; rw [hs0]; exact h.put hS o
  case hIx => intro c W o h _; rw [hs0]; exact h.put o
  case hbox => rintro W ⟨_, _, _, h⟩; exact (h.cell (p := ⟨Bs, 0, none⟩) hBs).trans hbox
  case hel =>
    rintro i hi W ⟨_, _, _, h⟩
    obtain ⟨b, o, e1, e2, e3⟩ := hel i hi
    exact ⟨b, o, e1, (h.cell (p := ⟨b, o + i, none⟩) e2).trans e3⟩
  case h0 =>
    intro r
    have hb2 : Below W0.heap.size W0 ((W0.alloc (.deferred (some []))).alloc (.loop r)) := ((Below.refl _ _).alloc (Nat.le_refl _) _).alloc (by simp) _
    refine ⟨by simp [hs0], x0.below hb2 (by omega), ⟨.nilIface, x1.below hb2 (by omega), rfl⟩, hb0.trans (hb2.mono hb0.size)⟩
  case assign =>
    intro r x W K hK
    gi_wp2
    exact hK
  case body =>
    rintro r i hi W ⟨h1, h2, ⟨v, h3, h4⟩, h5⟩
    have hi' : i < l.length := by omega
    have hjx := hj l[i] (List.getElem_mem hi')
    have e : addJ .null (l.take (i + 1)) = nextJ (addJ .null (l.take i)) l[i] := addJ_take hi'
    refine add_round (S := S) (lo := w.heap.size + 4) (i := i) (o := addJ .null (l.take i)) (j := l[i]) rfl h1 (by omega) (by omega) (by omega) h3 h2 h4 (fun b hb => by have := hS b hb; omega) hjx.1 hjx.2 ((hJ i hi' hi).go (fun b hb => h5.block b (hS b hb)) (fun _ h => h)) (by omega) (hok i) ?_ ?_
    · intro a1 v' W' g1 g2 g3
      rw [← e] at g2
      refine ⟨⟨g3.block _ (by omega) (by omega), g3.block _ (by omega) (by omega)⟩, Nat.le_trans h1 g3.size, (g3.block _ (by omega) (by omega)).trans h2, ⟨v', g1, g2⟩, ?_⟩
      exact h5.trans ⟨g3.os, g3.tape, g3.output, g3.size, fun b hb => g3.block b (by omega) (by omega)⟩
    · intro a1 u W' g0 g1 g2 g3
      refine ⟨⟨g3.block _ (by omega) (by omega) (by omega), g3.block _ (by omega) (by omega) (by omega)⟩, rfl, Nat.le_trans h1 g3.size, ?_, ⟨u, g2, g1⟩, ?_⟩
      · exact h5.trans ⟨g3.os, g3.tape, g3.output, g3.size, fun b hb => g3.block b (by omega) (by omega) (by omega)⟩
      · rw [← e] at g0
        exact g0.imp (fun h => addJ_stop h (.inl rfl)) (fun h => addJ_stop h (.inr rfl))
  case done =>
    rintro W ⟨h1, h2, ⟨v, h3, h4⟩, h5⟩ hK
    rw [hs0] at hK ⊢
    rw [hlen, List.take_length] at h4
    have c0 := h2.cell; have f0 := h2.fr; have c1 := h3.cell; have f1 := h3.fr
    have hne : w.heap.size ≠ w.heap.size + 2 := by omega
    by_cases hs : ∃ s, addJ .null l = .value (.str s)
    · obtain ⟨s, hs⟩ := hs
      rw [hs] at h4
      have HSS := Lib.hid hs
      obtain ⟨b, rfl, hB⟩ := h4
      have SB := Lib.hid (string_any (w.heap.size + 4) b s W (Or.inr hB) h1)
      have H2 := Lib.hid h2; have H3 := Lib.hid h3; have H5 := Lib.hid h5; have HK := Lib.hid hK; have H1 := Lib.hid h1
      clear hB h2 h3 h5 hK hs h1
      gi_wp2
      refine ⟨trivial, (callsIn_wide.2 SB.out).mono ?_⟩
      rintro e W2 ⟨rfl, hb⟩
      have y0 := H2.out.below hb (by omega)
      have y1 := H3.out.below hb (by omega)
      have K2 : W2.heap[w.heap.size + 2]? = some (.deferred (some [])) := (hb.block _ (by omega)).trans HK.out
      clear c0 f0 c1 f1
      have z0 := y0.kept (grown_setCell W2 (w.heap.size + 1) 0 (.iface 9 (.string s))) (fun k hk => by cases hk; omega)
      have z1 := y1.set (.iface 9 (.string s))
      have K3 : (W2.setCell ⟨w.heap.size + 1, 0, none⟩ (.iface 9 (.string s))).heap[w.heap.size + 2]? = some (.deferred (some [])) := (Below.heap_setCell _ _ _ _ (by simp)).trans K2
      have K4 : ((W2.setCell ⟨w.heap.size + 1, 0, none⟩ (.iface 9 (.string s))).setCell ⟨w.heap.size, 0, none⟩ (.iface 9 (.string s))).heap[w.heap.size + 2]? = some (.deferred (some [])) := (Below.heap_setCell _ _ _ _ (by simp)).trans K3
      have hbel : Below w.heap.size w ((W2.setCell ⟨w.heap.size + 1, 0, none⟩ (.iface 9 (.string s))).setCell ⟨w.heap.size, 0, none⟩ (.iface 9 (.string s))) :=
        ((H5.out.trans (hb.mono (by omega))).setCell (p := ⟨w.heap.size + 1, 0, none⟩) (by simp) _).setCell (p := ⟨w.heap.size, 0, none⟩) (Nat.le_refl _) _
      have hbel2 := below_putObj hbel (b := w.heap.size + 2) (by omega) (.deferred none) (by have := hb.size; have := H1.out; simp [World.setCell]; omega)
      have hbx := (z0.set (.iface 9 (.string s))).kept (grownBy_putObj' _ (w.heap.size + 2) (.deferred none)) (fun k hk => by cases hk; omega)
      have c1 := y1.cell; have f1 := y1.fr; have c2 := z1.cell; have c0 := z0.cell; have f0 := z0.fr; have cN := hbx.cell
      have FIN := Lib.hid (show SumPost S w (addJ .null l) (.returned (.iface 9 (.string s))) _ from ⟨hbel2, _, rfl, by rw [HSS.out]; exact JR.leaf rfl rfl (fun m e => by cases e)⟩)
      have KK := Lib.hid K4
      clear y0 y1 z0 z1 K2 K3 K4 hbel hbel2 hbx hb
      gi_wp2
      refine ⟨by simp, .inl ⟨_, _, rfl, run_takeDeferred KK.out, ?_⟩⟩
      exact ⟨_, by simp [results, Tryz.f64, go_sem, cN], FIN.out⟩
    · have hns : ∀ s, addJ .null l ≠ .value (.str s) := fun s e => hs ⟨s, e⟩
      have fm := h4.form hns
      have hacc2 := h4.kept (grown_setCell W w.heap.size 0 v) (fun k hk => by cases hk; exact ⟨by omega, fun h => by have := hS _ h; omega⟩) (fun b hb => by have := hS b hb; omega)
      have hK2 : (W.setCell ⟨w.heap.size, 0, none⟩ v).heap[w.heap.size + 2]? = some (.deferred (some [])) := (Below.heap_setCell _ _ _ _ (by simp)).trans hK
      have hacc3 := hacc2.kept (grownBy_putObj' _ (w.heap.size + 2) (.deferred none)) (fun k hk => by cases hk; exact ⟨by omega, fun h => by have := hS _ h; omega⟩) (fun b hb => by have := hS b hb; simp [World.setCell]; omega)
      have hbel : Below w.heap.size w ((W.setCell ⟨w.heap.size, 0, none⟩ v).putObj (w.heap.size + 2) (.deferred none)) := below_putObj (h5.setCell (p := ⟨w.heap.size, 0, none⟩) (Nat.le_refl _) _) (by omega) _ (by simp [World.setCell]; omega)
      have hbx : IBox ((W.setCell ⟨w.heap.size, 0, none⟩ v).putObj (w.heap.size + 2) (.deferred none)) w.heap.size v := (h2.set v).kept (grownBy_putObj' _ _ _) (fun k hk => by cases hk; omega)
      have FIN := Lib.hid (show SumPost S w (addJ .null l) (.returned v) _ from ⟨hbel, v, rfl, hacc3.fin hns (by omega) (by omega)⟩)
      have cN := hbx.cell
      have KK := Lib.hid hK2
      clear hK hK2 hacc2 hacc3 hbel hbx h4 h5 hns hs h1
      rcases fm with rfl | ⟨t1, y1, rfl, hnb⟩
      all_goals
        gi_wp2
        refine ⟨by simp, .inl ⟨_, _, rfl, run_takeDeferred KK.out, ?_⟩⟩
        exact ⟨_, by simp [results, Tryz.f64, go_sem, cN], FIN.out⟩
  case stop =>
    rintro c W ⟨rfl, h1, h2, ⟨u, h3, h4⟩, h5⟩ hK
    rw [hs0] at hK ⊢
    have hbx := h3.kept (grownBy_putObj' W (w.heap.size + 2) (.deferred none)) (fun k hk => by cases hk; omega)
    have cN := hbx.cell
    have hbel : Below w.heap.size w (W.putObj (w.heap.size + 2) (.deferred none)) := below_putObj h2 (by omega) _ (by omega)
    have FIN : SumPost S w (addJ .null l) (.returned u) (W.putObj (w.heap.size + 2) (.deferred none)) := by
      refine ⟨hbel, u, rfl, ?_⟩
      rcases h5 with e | e <;> rw [e]
      · exact h4
      · exact .inl h4
    gi_wp2
    refine ⟨by simp, .inl ⟨_, _, rfl, run_takeDeferred hK, ?_⟩⟩
    exact ⟨_, by simp [results, Tryz.f64, go_sem, cN], FIN⟩
end Go.Proofs.YtfgmegfgifeaiaaGreatDoor

namespace Go.Proofs.YtfgmegfgifeaiaaGreatDoor
open Go.RowKit

theorem sum_vals (a : Option Addr) (n cap : Nat) (w : World) : Calls Tryz.prog 63 #[.iface 58 (.slice a n cap)] w fun e w' => e = .returned (.tuple #[.slice a n cap, .bool true]) ∧ w = w' := by
  go_enter Tryz.func63, Tryz.ntmps63
  go_wp2_with fail
  go_ret2
  exact ⟨rfl, rfl⟩

theorem SumVal.wide {S : Nat → Prop} {N N' : Nat} {o : Out} {v : Value} {W : World} (h : SumVal S N' o v W) (hN : N ≤ N') : SumVal S N o v W := by
  cases o with
  | raises => exact h
  | silent => exact h
  | value j =>
    cases j with
    | num a => exact h
    | _ => exact JR.mono (fun b hb => hb.imp (fun h => h) (fun h => ⟨by have := h.1; omega, h.2⟩)) h
theorem SumPost.wide {S : Nat → Prop} {w w1 : World} {o : Out} {e : Ending} {w' : World} (h : SumPost S w1 o e w') (hb : Below w.heap.size w w1) : SumPost S w o e w' := by
  obtain ⟨h1, v, h2, h3⟩ := h
  exact ⟨hb.trans (h1.mono hb.size), v, h2, h3.wide hb.size⟩

/-- gojq.funcAdd of a list. -/
theorem funcAdd_arr {S : Nat → Prop} {l : List J} {v : Value} {w : World} (hl : l.length ≤ 400) (hj : ∀ x ∈ l, JOK x ∧ x.text.size ≤ 2000) (hok : ∀ i a, addJ .null (l.take i) = .value a → JOK a) (hv : JR w S (.arr l) v) (hS : ∀ b, S b → b < w.heap.size) :
    Calls Tryz.prog 32 #[v] w (SumPost S w (addJ .null l)) := by
  obtain ⟨a, cap, xs, rfl, hlen, hs, hJ, _⟩ := hv.list
  have hb : Below w.heap.size w (w.alloc (.cells #[.slice a xs.length cap] 58)) := (Below.refl _ _).alloc (Nat.le_refl _) _
  have A := Lib.hid (gadd_any (S := S) (a := a) (cap := cap) (Bs := w.heap.size) (vs := xs) (w := w.alloc (.cells #[.slice a xs.length cap] 58)) hl hlen hj hok (by rw [Lib.cell_of_heap (heap_alloc_at _ _)]; rfl) (by simp) (fun i hi => by
    obtain ⟨b, o, e1, e2, e3⟩ := hs i hi
    have := hS b e2
    exact ⟨b, o, e1, by simp; omega, (hb.cell (p := ⟨b, o + i, none⟩) this).trans e3⟩) (fun i h1 h2 => (hJ i h1 h2).go (fun b h => hb.block b (hS b h)) (fun _ h => h)) (fun b h => by have := hS b h; simp; omega))
  have HB := Lib.hid hb
  clear hb hs hJ hv hj hok hl hS hlen
  generalize addJ .null l = o at *
  generalize xs.length = k at *
  go_enter Tryz.func32, Tryz.ntmps32
  go_wp2_with fail
  refine (sum_vals _ _ _ _).mono ?_
  rintro e w' ⟨rfl, rfl⟩
  go_wp2_with fail
  refine (sValues_any _ _ _ _).mono ?_
  rintro e w' ⟨rfl, rfl⟩
  go_wp2_with fail
  refine A.out.mono ?_
  rintro e w2 h
  have h' := Lib.hid (h.wide HB.out)
  obtain ⟨_, v, rfl, _⟩ := h
  go_wp2_with fail
  go_ret
  exact h'.out

theorem ZzSum_arr {S : Nat → Prop} {o : Out} {v : Value} {w : World} (h : Calls Tryz.prog 32 #[v] w (SumPost S w o)) : Calls Tryz.prog 14 #[v] w (SumPost S w o) := by
  have H := Lib.hid h
  clear h
  go_enter Tryz.func14, Tryz.ntmps14
  go_wp2_with fail
  refine H.out.mono ?_
  rintro e w2 h
  have h' := Lib.hid h
  obtain ⟨_, v, rfl, _⟩ := h
  clear H
  go_wp2_with fail
  go_ret
  exact h'.out

/-- A Res that says an outcome; of one that is not asked for, nothing. -/
def ResIn (w : World) (o : Out) (e : Ending) (w' : World) : Prop :=
  ∃ c how, e = .returned (resVal c how) ∧ Below w.heap.size w w' ∧ (o ≠ .silent → how = o.how) ∧ ∀ j, o = .value j → VR w' (New w.heap.size w') j c

theorem result_sum {S : Nat → Prop} {N : Nat} {o : Out} {v : Value} {w : World} (h : SumVal S N o v w) (hok : ∀ j, o = .value j → JOK j) (hS : ∀ b, S b → b < w.heap.size) : Calls Tryz.prog 13 #[v] w (ResIn w o) := by
  have err : IsErr v → (∀ j, o ≠ .value j) → Calls Tryz.prog 13 #[v] w (ResIn w o) := fun h1 h2 => by
    refine (result_err v w h1).mono ?_
    rintro e w' ⟨rfl, hb⟩
    refine ⟨_, _, rfl, hb, fun h3 => ?_, fun j e => absurd e (h2 j)⟩
    cases o with
    | silent => exact absurd rfl h3
    | raises => rfl
    | value j => exact absurd rfl (h2 j)
  have num : ∀ k : Kd, k.num (Bnd 400) → v = k.val → (∀ j, o = .value j → ∃ a, j = .num a ∧ k.is a ∧ Fits53 a) → o ≠ .raises → Calls Tryz.prog 13 #[v] w (ResIn w o) := by
    rintro k h1 rfl h2 h3
    refine (result_num k (Bnd 400) (by unfold Bnd; omega) h1 w).mono ?_
    rintro e w' ⟨⟨c, how, rfl, hc⟩, hb⟩
    refine ⟨_, _, rfl, hb, fun h4 => ?_, fun j e => ?_⟩
    · cases o with
      | silent => exact absurd rfl h4
      | raises => exact absurd rfl h3
      | value j =>
        obtain ⟨a, _, e2, e3⟩ := h2 j rfl
        exact (hc a e2 e3).2
    · obtain ⟨a, rfl, e2, e3⟩ := h2 j e
      rw [(hc a e2 e3).1]
      exact VR.num w' _ a
  cases o with
  | raises => exact err h (fun j e => by cases e)
  | silent =>
    rcases h with h | ⟨k, e, h⟩
    · exact err h (fun j e => by cases e)
    · exact num k h e (fun j e => by cases e) (fun e => by cases e)
  | value j =>
    have other : JR w (fun b => S b ∨ New N w b) j v → Calls Tryz.prog 13 #[v] w (ResIn w (.value j)) := fun h => by
      refine (result_any j v w _ (JOK.jw _ (Nat.le_refl _) (hok j rfl)) h (fun b hb => hb.elim (hS b) (fun h => h.2))).mono ?_
      rintro e w' ⟨c, rfl, hV, hb⟩
      exact ⟨c, 0, rfl, hb, fun _ => rfl, fun j' e => by cases e; exact hV⟩
    cases j with
    | num a =>
      obtain ⟨k, e, h1, h2, h3⟩ := h
      exact num k h1 e (fun j e => by cases e; exact ⟨a, rfl, h2, h3⟩) (fun e => by cases e)
    | _ => exact other h

theorem res_out {o : Out} {w w4 : World} {N lo : Nat} {c : VC} {how : Int} (hb : Below w.heap.size w w4) (hN : w.heap.size ≤ N) (hlo : N < lo) (hh : o ≠ .silent → how = o.how) (hV : ∀ j, o = .value j → VR w4 (New lo w4) j c) :
    ResIn w o (.returned (resVal c how)) (resStored w4 N c how) :=
  ⟨c, how, rfl, resStored_below hb hN, hh, fun j hj => (hV j hj).go (fun b hb => resStored_block (by have := hb.1; omega)) (fun b hb => ⟨by have := hb.1; omega, by rw [resStored_size]; exact hb.2⟩)⟩

set_option maxRecDepth 100000 in
/-- impl.Sum, over what the package gives. -/
theorem ISum_hands (j : J) (o : Out) (a : VC) (w : World) (S : Nat → Prop) (hj : JOK j) (ha : VR w S j a) (hS : ∀ b, S b → b < w.heap.size) (hok : ∀ j', o = .value j' → JOK j')
    (hZ : ∀ (v : Value) (w1 : World) (S1 : Nat → Prop), JR w1 S1 j v → (∀ b, S1 b → b < w1.heap.size) → Calls Tryz.prog 14 #[v] w1 (SumPost S1 w1 o)) :
    Calls Tryz.prog 7 #[a.val] w (ResIn w o) := by
  have HA := Lib.hid ha; have HS := Lib.hid hS; have HJ := Lib.hid hj; have HO := Lib.hid hok; have HZ := Lib.hid hZ
  clear ha hS hj hok hZ
  obtain ⟨k0, h0, s0, la, ll, lc, ka, kl, kc, va, vl, vc⟩ := a
  have R0 := Lib.hid (resbox_alloc (w.alloc (.cells (VC.arr ⟨k0, h0, s0, la, ll, lc, ka, kl, kc, va, vl, vc⟩) 26)) VC.nil 0)
  have W3 : Hid (Below w.heap.size w ((w.alloc (.cells (VC.arr ⟨k0, h0, s0, la, ll, lc, ka, kl, kc, va, vl, vc⟩) 26)).alloc (.cells #[.int .i64 0, .int .i64 0, .string ByteArray.empty, .slice none 0 0, .slice none 0 0, .slice none 0 0, .int .i64 0] 30))) :=
    Lib.hid (((Below.refl _ _).alloc (Nat.le_refl _) _).alloc (by simp) _)
  have T1 := Lib.hid fun hn => toGo_any (SizeOf.sizeOf j) j _ _ S (Nat.le_refl _) HJ.out (HA.out.go (fun b hb => W3.out.block b (HS.out b hb)) (fun _ h => h)) hn
  unfold VC.val VC.arr at *
  unfold VC.nil at R0
  go_enter Tryz.func7, Tryz.ntmps7
  go_wp2_with fail
  refine (T1.out ?_).mono ?_
  · intro b hb; exact Nat.lt_of_lt_of_le (HS.out b hb) W3.out.size
  rintro e w1 ⟨v1, rfl, hG1, hb1⟩
  have HB1 := Lib.hid hb1
  have W4 := Lib.hid (W3.out.trans (hb1.mono W3.out.size))
  have Z := Lib.hid (HZ.out v1 w1 _ (GR.jr _ (Nat.le_refl _) hG1) (fun b hb => hb.2))
  clear hb1 hG1
  go_wp2_with fail
  refine Z.out.mono ?_
  rintro e w3 ⟨hb3, v3, rfl, hv3⟩
  have HC2 := Lib.hid (result_sum hv3 HO.out (fun b hb => Nat.lt_of_lt_of_le hb.2 hb3.size))
  have W6 := Lib.hid (W4.out.trans (hb3.mono W4.out.size))
  have HB3 := Lib.hid hb3
  clear hb3 hv3
  go_wp2_with fail
  refine HC2.out.mono ?_
  rintro e w4 ⟨c, how, rfl, hb4, hh, hV⟩
  have W7 := Lib.hid (W6.out.trans (hb4.mono W6.out.size))
  have r0 := R0.out.below ((HB1.out.trans (HB3.out.mono HB1.out.size)).trans (hb4.mono (Nat.le_trans HB1.out.size HB3.out.size))) (by simp)
  simp only [World.size_alloc] at r0
  have q0 := r0.c0; have q1 := r0.c1; have q2 := r0.c2; have q3 := r0.c3; have q4 := r0.c4; have q5 := r0.c5; have q6 := r0.c6; have qf := r0.fr; have lt := r0.lt
  have HV := Lib.hid hV; have HH := Lib.hid hh
  obtain ⟨k9, h9, s9, la9, ll9, lc9, ka9, kl9, kc9, va9, vl9, vc9⟩ := c
  unfold resVal
  clear r0 hV hb4 hh
  go_wp2_with fail
  refine bodyPost_ret (v := .agg #[.int .i64 k9, .int .i64 h9, .string s9, .slice la9 ll9 lc9, .slice ka9 kl9 kc9, .slice va9 vl9 vc9, .int .i64 how]) (by simp [results, Tryz.results7, go_sem, q0, q1, q2, q3, q4, q5, q6]) rfl ?_
  have hsz : w.heap.size + 2 ≤ w3.heap.size := Nat.le_trans HB1.out.size HB3.out.size |> Nat.le_trans (by simp)
  exact res_out (N := w.heap.size + 1) W7.out (by omega) (by omega) HH.out HV.out

theorem ISum_any (l : List J) (a : VC) (w : World) (S : Nat → Prop) (hj : JOK (.arr l)) (hl : l.length ≤ 400) (hx : ∀ x ∈ l, JOK x ∧ x.text.size ≤ 2000) (hok : ∀ i a, addJ .null (l.take i) = .value a → JOK a) (ha : VR w S (.arr l) a) (hS : ∀ b, S b → b < w.heap.size) :
    Calls Tryz.prog 7 #[a.val] w (ResIn w (addJ .null l)) :=
  ISum_hands (.arr l) _ a w S hj ha hS (fun j e => hok l.length j (by rw [List.take_length]; exact e)) (fun _ _ _ h1 h2 => ZzSum_arr (funcAdd_arr hl hx hok h1 h2))

/-- laws.told of an outcome that is as it should be. -/
theorem told_any (o : Out) (a c : VC) (how : Int) (w : World) (S : Nat → Prop) (hok : ∀ j, o = .value j → JOK j) (hh : o ≠ .silent → how = o.how) (ha : ∀ j, o = .value j → VR w S j a) (hc : ∀ j, o = .value j → VR w S j c) (hS : ∀ b, S b → b < w.heap.size) :
    Calls Tryz.prog 11 #[resVal a how, c.val, .int .i64 o.how] w (TruePost w) := by
  cases o with
  | silent => exact told_silent _ _ _ w
  | raises => rw [hh (fun e => by cases e)]; exact told_raises _ _ w
  | value j => rw [hh (fun e => by cases e)]; exact told_value j a c w S (hok j rfl) (ha j rfl) (hc j rfl) hS

/-- laws.call("add", v, r) of a Res that says the sum. -/
theorem lcall_add (l : List J) (a c : VC) (how : Int) (w : World) (S : Nat → Prop) (hj : JOK (.arr l)) (hl : l.length ≤ 400) (hx : ∀ x ∈ l, JOK x ∧ x.text.size ≤ 2000) (hp : parts l ≤ 400) (hok : ∀ j, addJ .null l = .value j → JOK j)
    (ha : VR w S (.arr l) a) (hh : addJ .null l ≠ .silent → how = (addJ .null l).how) (hc : ∀ j, addJ .null l = .value j → VR w S j c) (hS : ∀ b, S b → b < w.heap.size) :
    Calls Tryz.prog 6 #[.string ⟨#[97, 100, 100]⟩, a.val, resVal c how] w (TruePost w) := by
  have B0 := box_alloc w a
  have R0 := resbox_alloc (w.alloc (.cells a.arr 26)) c how
  have b2 : Below w.heap.size w ((w.alloc (.cells a.arr 26)).alloc (.cells #[.int .i64 c.k, .int .i64 c.h, .string c.s, .slice c.la c.ll c.lc, .slice c.ka c.kl c.kc, .slice c.va c.vl c.vc, .int .i64 how] 30)) := ((Below.refl _ _).alloc (Nat.le_refl _) _).alloc (by simp) _
  have bx := B0.below ((Below.refl (w.heap.size + 1) (w.alloc (.cells a.arr 26))).alloc (by simp) (.cells #[.int .i64 c.k, .int .i64 c.h, .string c.s, .slice c.la c.ll c.lc, .slice c.ka c.kl c.kc, .slice c.va c.vl c.vc, .int .i64 how] 30)) (by omega)
  have p0 := bx.c0; have p1 := bx.c1; have p2 := bx.c2; have p3 := bx.c3; have p4 := bx.c4; have p5 := bx.c5
  have C := Lib.hid (Call_add l a (S := S) hj hl hx hp (ha.go (fun b h => b2.block b (hS b h)) (fun _ h => h)) (fun b h => Nat.lt_of_lt_of_le (hS b h) b2.size))
  have RB := Lib.hid R0; have B2 := Lib.hid b2; have HS := Lib.hid hS; have HC := Lib.hid hc
  have TT := Lib.hid fun x w' S' h1 h2 h3 => told_any (addJ .null l) c x how w' S' hok hh h1 h2 h3
  clear B0 R0 b2 bx ha hj hl hx hp hS hok hh hc
  generalize addJ .null l = o at *
  obtain ⟨k0, h0, s0, la, ll, lc, ka, kl, kc, va, vl, vc⟩ := a
  obtain ⟨k8, h8, s8, la8, ll8, lc8, ka8, kl8, kc8, va8, vl8, vc8⟩ := c
  unfold resVal at *
  unfold VC.val VC.arr at *
  go_enter Tryz.func6, Tryz.ntmps6
  go_wp2_with fail
  refine C.out.mono ?_
  rintro e w1 ⟨c9, rfl, hv, hb1⟩
  have rb := RB.out.below hb1 (by simp)
  simp only [World.size_alloc] at rb
  have q0 := rb.c0; have q1 := rb.c1; have q2 := rb.c2; have q3 := rb.c3; have q4 := rb.c4; have q5 := rb.c5; have q6 := rb.c6; have qf := rb.fr; have lt := rb.lt
  have W1 := Lib.hid (B2.out.trans (hb1.mono B2.out.size)); have HV := Lib.hid hv; have HB1 := Lib.hid hb1
  clear rb hv hb1 p0 p1 p2 p3 p4 p5
  obtain ⟨k9, h9, s9, la9, ll9, lc9, ka9, kl9, kc9, va9, vl9, vc9⟩ := c9
  have T2 := Lib.hid fun w' (hb : Below w1.heap.size w1 w') => TT.out ⟨k9, h9, s9, la9, ll9, lc9, ka9, kl9, kc9, va9, vl9, vc9⟩ w' (fun b => S b ∨ New w.heap.size w' b)
    (fun j hj => (HC.out j hj).go (fun b h => (W1.out.trans (hb.mono W1.out.size)).block b (HS.out b h)) (fun _ h => .inl h))
    (fun j hj => (HV.out j hj).go (fun b h => hb.block b (h.elim (fun h => Nat.lt_of_lt_of_le (HS.out b h) W1.out.size) (fun h => h.2))) (fun b h => h.imp (fun h => h) (fun h => ⟨Nat.le_trans B2.out.size h.1, Nat.lt_of_lt_of_le h.2 hb.size⟩)))
    (fun b h => h.elim (fun h => Nat.lt_of_lt_of_le (HS.out b h) (Nat.le_trans W1.out.size hb.size)) (fun h => h.2))
  have al := (Below.refl w1.heap.size w1).alloc (Nat.le_refl _) (.cells #[.int .i64 k9, .int .i64 h9, .string s9, .slice la9 ll9 lc9, .slice ka9 kl9 kc9, .slice va9 vl9 vc9] 26)
  have AL := Lib.hid al
  clear al TT
  unfold VC.val VC.arr at *
  go_wp2_with fail
  refine (T2.out _ ?_).mono ?_
  · exact AL.out.trans (Below.refl _ _)
  rintro e w2 ⟨rfl, hb2⟩
  have W2 := Lib.hid (W1.out.trans ((AL.out.trans (hb2.mono AL.out.size)).mono W1.out.size))
  clear hb2
  go_wp2_with fail
  go_ret
  exact ⟨rfl, W2.out⟩
end Go.Proofs.YtfgmegfgifeaiaaGreatDoor

namespace Go.Proofs.YtfgmegfgifeaiaaGreatDoor
open Go.RowKit

theorem parts_le_n (l : List J) : parts l ≤ (J.arr l).n := by
  rw [J.n_arr]
  unfold parts
  have one : ∀ x : J, x.list.length + x.ents.length ≤ x.n := fun x => by
    have ones : ∀ l : List J, l.length ≤ (l.map J.n).sum := fun l => by
      induction l with
      | nil => simp
      | cons y l ih => have := y.n_pos; simp only [List.length_cons, List.map_cons, List.sum_cons]; omega
    cases x with
    | arr l => rw [J.n_arr]; have := ones l; simp only [J.list, J.ents, List.length_nil]; omega
    | obj m =>
      rw [J.n_obj]
      have := ones (m.map (·.2))
      rw [List.map_map, List.length_map] at this
      simp only [J.list, J.ents, List.length_nil]
      have e : (m.map (J.n ∘ fun x => x.2)).sum = (m.map fun x => x.2.n).sum := rfl
      omega
    | _ => simp [J.list, J.ents]
  induction l with
  | nil => simp
  | cons x l ih => have := one x; simp only [List.map_cons, List.sum_cons]; omega
theorem len_le_n (l : List J) : l.length ≤ (J.arr l).n := by
  rw [J.n_arr]
  induction l with
  | nil => simp
  | cons x l ih => have := x.n_pos; simp only [List.map_cons, List.sum_cons, List.length_cons]; omega

/-- Each sum on the way is a right value. -/
theorem sums_ok {l : List J} (hx : ∀ x ∈ l, JOK x ∧ x.text.size ≤ 2000) (hl : l.length ≤ 400) (hp : parts l ≤ 400) : ∀ i, i ≤ l.length → ∀ a, addJ .null (l.take i) = .value a → SumOk i (parts (l.take i)) a := by
  intro i
  induction i with
  | zero =>
    intro _ a h
    simp only [List.take_zero, addJ] at h
    cases h
    exact ⟨.leafs (by simp [J.half]) (by simp [J.text, ByteArray.size]) rfl rfl, by simp [J.text, ByteArray.size], by simp [J.list], by simp [J.ents]⟩
  | succ i ih =>
    intro hi a h
    have hi' : i < l.length := by omega
    rw [addJ_take hi'] at h
    have h1 := hx l[i] (List.getElem_mem hi')
    have h2 := parts_take l hi'
    have h3 := parts_le l (i + 1)
    cases h0 : addJ .null (l.take i) with
    | value b =>
      rw [h0] at h
      have := plus_ok (ih (by omega) b h0) h1.1 h1.2 (by omega) (by omega) h
      rw [h2]
      exact this
    | _ => rw [h0] at h; cases h
theorem sums_jok {l : List J} (hx : ∀ x ∈ l, JOK x ∧ x.text.size ≤ 2000) (hl : l.length ≤ 400) (hp : parts l ≤ 400) : ∀ i a, addJ .null (l.take i) = .value a → JOK a := fun i a h => by
  rcases Nat.le_total i l.length with hi | hi
  · exact (sums_ok hx hl hp i hi a h).ok
  · rw [List.take_of_length_le hi] at h
    exact (sums_ok hx hl hp l.length (Nat.le_refl _) a (by rw [List.take_length]; exact h)).ok

/-- What a right tree of kind five is. -/
theorem good_list {t : T} (hg : Good t) (hn : t.n ≤ 400) (hk : t.k = 5) : ∃ l, t.j = .arr l ∧ l.length ≤ 400 ∧ parts l ≤ 400 ∧ ∀ x ∈ l, JOK x ∧ x.text.size ≤ 2000 := by
  have e : t.j = .arr (t.l.map T.j) := by rw [T.j_eq]; simp [hk]
  have h1 := Nat.le_trans (T.j_n _ t (Nat.le_refl _) hg) hn
  have hj := JOK.of hg hn
  rw [e] at h1 hj
  refine ⟨_, e, Nat.le_trans (len_le_n _) h1, Nat.le_trans (parts_le_n _) h1, fun x hx => ⟨hj.arr_mem x hx, ?_⟩⟩
  obtain ⟨u, hu, rfl⟩ := List.mem_map.1 hx
  obtain ⟨i, hi, rfl⟩ := List.getElem_of_mem hu
  have ho := (hg.l hi).own
  rw [jtext ho]
  exact ho.txt

set_option maxHeartbeats 4000000 in
theorem FnSum_any (ta : T) (a : VC) (B : Nat) {w : World} (hB : B ≤ w.heap.size) (h40 : LB ≤ B) (hT : Tabs w) (ha : TR w B ta a) :
    Calls Tryz.prog 3 #[a.val] w (TruePost w) := by
  have hb0 : Below w.heap.size w (w.alloc (.cells a.arr 26)) := (Below.refl _ _).alloc (Nat.le_refl _) _
  have Z1 := Lib.hid (zzFits1_any ta a (B := B) (w := w.alloc (.cells a.arr 26)) (by simp; omega) (ha.go (hb0.mono hB) (Nat.le_refl _)))
  have HB0 := Lib.hid hb0; have BX0 := Lib.hid (box_alloc w a)
  have HA := Lib.hid ha; have HT := Lib.hid hT
  have hk : a.k = ta.k := by rw [TR] at ha; exact ha.1.k
  have HK := Lib.hid hk
  clear hb0 ha hT hk
  obtain ⟨k0, h0, s0, la, ll, lc, ka, kl, kc, va, vl, vc⟩ := a
  unfold VC.val
  unfold VC.val at Z1
  unfold VC.arr at *
  go_enter Tryz.func3, Tryz.ntmps3
  go_wp2_with fail
  refine Z1.out.mono ?_
  rintro e w1 ⟨b1, rfl, hb1⟩
  have x0 := BX0.out.below hb1 (by simp)
  have p0 := x0.c0; have p1 := x0.c1; have p2 := x0.c2; have p3 := x0.c3; have p4 := x0.c4; have p5 := x0.c5
  have W1 := Lib.hid (HB0.out.trans (hb1.mono HB0.out.size))
  have HB1 := Lib.hid hb1
  clear hb1 x0
  cases b1 with
  | false =>
    go_wp2_with fail
    go_ret
    exact ⟨rfl, W1.out⟩
  | true =>
    have F := Lib.hid (Fit_any (HA.out.go (W1.out.mono hB) (Nat.le_refl _)) (Nat.le_trans hB W1.out.size) h40 (HT.out.below (W1.out.mono hB) h40))
    unfold VC.val VC.arr at F
    go_wp2_with fail
    refine F.out.mono ?_
    rintro e w3 ⟨b3, rfl, hgood, hb3⟩
    have x0 := BX0.out.below (HB1.out.trans (hb3.mono HB1.out.size)) (by simp)
    clear p0 p1 p2 p3 p4 p5 F
    have W3 := Lib.hid (W1.out.trans (hb3.mono W1.out.size))
    have p0 := x0.c0; have p1 := x0.c1; have p2 := x0.c2; have p3 := x0.c3; have p4 := x0.c4; have p5 := x0.c5
    have lt0 := x0.lt
    have X0 := Lib.hid x0; have HG := Lib.hid hgood
    clear hgood hb3 x0
    cases b3 with
    | false =>
      go_wp2_with fail
      go_ret
      exact ⟨rfl, W3.out⟩
    | true =>
      by_cases hk5 : k0 = 5
      · subst hk5
        obtain ⟨hg1, hg2⟩ := HG.out rfl
        obtain ⟨l, hl, l4, hp, hx⟩ := good_list hg1 hg2 HK.out.symm
        have JA := JOK.of hg1 hg2
        have VA : ∀ w', Below w.heap.size w w' → VR w' (· < B) (.arr l) ⟨5, h0, s0, la, ll, lc, ka, kl, kc, va, vl, vc⟩ := fun w' hb => by rw [← hl]; exact VR.of hg1 (HA.out.go (hb.mono hB) (Nat.le_refl _))
        rw [hl] at JA
        have OK := sums_jok hx l4 hp
        have OK0 : ∀ j, addJ .null l = .value j → JOK j := fun j e => OK l.length j (by rw [List.take_length]; exact e)
        have IS := Lib.hid fun w' hb => ISum_any l _ w' (· < B) JA l4 hx OK (VA w' hb) (fun b h => by have := hb.size; omega)
        have CA := Lib.hid fun w' c how (hb : Below w.heap.size w w') h1 h2 => lcall_add l ⟨5, h0, s0, la, ll, lc, ka, kl, kc, va, vl, vc⟩ c how w' (· < w'.heap.size) JA l4 hx hp OK0 ((VA w' hb).mono (fun b h => by have := hb.size; omega)) h1 h2 (fun b h => h)
        unfold VC.val VC.arr at IS CA
        clear JA VA OK OK0 hx hp l4 hg1 hg2 HG hl
        generalize addJ .null l = o at *
        go_wp2_with fail
        go_region_with (first
          | (go_at_call 7; refine (IS.out _ W3.out.drew).mono ?_
             rintro e w6 ⟨c8, how, rfl, hb6, hh6, hv8⟩
             have bx := X0.out.below (((Below.refl (w.heap.size + 1) _).drew).trans (hb6.mono lt0)) (by omega)
             clear p0 p1 p2 p3 p4 p5
             have p0 := bx.c0; have p1 := bx.c1; have p2 := bx.c2; have p3 := bx.c3; have p4 := bx.c4; have p5 := bx.c5
             have W6 := Lib.hid (W3.out.drew.trans (hb6.mono W3.out.size))
             have HH := Lib.hid hh6
             have U8 := Lib.hid fun j hj => (hv8 j hj).mono (S' := (· < w6.heap.size)) (fun b hb => hb.2)
             clear bx hb6 hv8 hh6
             obtain ⟨k8, h8, s8, la8, ll8, lc8, ka8, kl8, kc8, va8, vl8, vc8⟩ := c8
             unfold resVal at *)
          | (go_at_call 6; refine (CA.out _ ⟨k8, h8, s8, la8, ll8, lc8, ka8, kl8, kc8, va8, vl8, vc8⟩ how W6.out HH.out U8.out).mono ?_
             rintro e w7 ⟨rfl, hb7⟩
             have W7 := Lib.hid (W6.out.trans (hb7.mono W6.out.size))
             clear hb7))
        all_goals
          go_wp2_with fail
          go_ret
          exact ⟨rfl, W7.out⟩
      · go_wp2_with fail
        go_ret
        exact ⟨rfl, W3.out⟩
end Go.Proofs.YtfgmegfgifeaiaaGreatDoor
