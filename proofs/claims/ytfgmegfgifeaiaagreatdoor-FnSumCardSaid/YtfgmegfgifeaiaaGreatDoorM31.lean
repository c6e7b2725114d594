/- A part of the proof. A part of the proof. A part of the proof. -/
import Derived.Test.YtfgmegfgifeaiaaGreatDoorZSumB
import Derived.Test.YtfgmegfgifeaiaaGreatDoorZRange
import Derived.WalkKit
import Derived.Laws.CopyRow
import Derived.Laws.IdiomCopy
import Derived.Maps.AppendAt
import Derived.OwnWalkIn
import Derived.TacticsInMore
namespace Go.Proofs.YtfgmegfgifeaiaaGreatDoor
open Go.RowKit Go.Shelf
attribute [local go_sem] Oper.semAt_some

/-- The body of the loop over a function that a function's code holds. -/
def bodyIn : Code → Option Code
  | .seq a b => match bodyIn a with | some c => some c | none => bodyIn b
  | .block _ b => bodyIn b
  | .rangeFunc _ _ _ b => some b
  | _ => none
def IsBody (c : Code) : Prop := (Tryz.f64).body.bind bodyIn = some c
/-- The frame of a round. -/
def addAct (f : Value) (Br Bv : Nat) (x : Value) : Act := { tmps := (f :: undef :: .pointer (some ⟨Br, 0, none⟩) :: .pointer (some ⟨Bv, 0, none⟩) :: x :: undef :: undef :: undef :: undef :: undef :: undef :: undef :: undef :: undef :: undef :: undef :: undef :: undef :: undef :: undef :: undef :: undef :: undef :: f :: x :: undef :: undef :: undef :: undef :: undef :: undef :: undef :: undef :: undef :: undef :: undef :: undef :: undef :: undef :: undef :: undef :: undef :: undef :: undef :: undef :: undef :: undef :: undef :: undef :: undef :: undef :: undef :: undef :: undef :: undef :: undef :: undef :: undef :: undef :: undef :: undef :: undef :: undef :: undef :: undef :: undef :: undef :: undef :: undef :: undef :: undef :: undef :: undef :: undef :: undef :: undef :: undef :: undef :: undef :: undef :: undef :: undef :: undef :: undef :: undef :: undef :: undef :: undef :: undef :: undef :: undef :: undef :: undef :: undef :: undef :: undef :: undef :: undef :: undef :: undef :: undef :: undef :: undef :: undef :: []).toArray, defers := [] }

/-- A box of an interface value. -/
def IBox (w : World) (b : Nat) (v : Value) : Prop := w.heap[b]? = some (.cells #[v] 20 (0, 0))
theorem IBox.cell {w : World} {b : Nat} {v : Value} (h : IBox w b v) : w.cell? ⟨b, 0, none⟩ = some v := by simp [World.cell?, show w.heap[b]? = _ from h]
theorem IBox.fr {w : World} {b : Nat} {v : Value} (h : IBox w b v) : w.frozen? ⟨b, 0, none⟩ = false := by simp [World.frozen?, show w.heap[b]? = _ from h]
theorem IBox.lt {w : World} {b : Nat} {v : Value} (h : IBox w b v) : b < w.heap.size := by
  rcases Nat.lt_or_ge b w.heap.size with h' | h'
  · exact h'
  · rw [IBox, Array.getElem?_eq_none h'] at h; cases h
theorem IBox.set {w : World} {b : Nat} {v : Value} (h : IBox w b v) (u : Value) : IBox (w.setCell ⟨b, 0, none⟩ u) b u := heap_setCell_same w ⟨b, 0, none⟩ _ h rfl
theorem IBox.kept {w w' : World} {b : Nat} {v : Value} {row : Option Nat} (h : IBox w b v) (hg : w.grownBy w' row) (hr : ∀ k, row = some k → k ≠ b) : IBox w' b v :=
  (hg.block b h.lt (fun e => hr b e.symm rfl)).trans h
theorem IBox.below {w w' : World} {b B : Nat} {v : Value} (h : IBox w b v) (hb : Below B w w') (hlt : b < B) : IBox w' b v := (hb.block b hlt).trans h

/-- copy onto a row that has just been made. -/
theorem copy_made {W1 : World} {g n c : Nat} {a : Option Addr} {xs : List Value} (hg : W1.heap[g]? = some (.cells (List.replicate n Value.nilIface).toArray 20 (0, 0))) (hx : xs.length = n)
    (hsrc : ∀ i (_ : i < xs.length), ∃ b o, a = some ⟨b, o, none⟩ ∧ W1.cell? ⟨b, o + i, none⟩ = some xs[i]) (h1 : ∀ u ∈ xs, u.oneCell' = true) :
    ∃ w', (∀ ty, (Builtin.copy_ #[58, 58] ty #[.slice (some ⟨g, 0, none⟩) n n, .slice a n c]).run Tryz.prog W1 = .ok (.int .i64 (n : Int)) w') ∧ w'.heap[g]? = some (.cells xs.toArray 20 (0, 0)) ∧ W1.grownBy w' (some g) := by
  have hsz : (Tryz.prog.info? 20).map (·.size) = some 1 := by kernel_rfl
  cases n with
  | zero =>
    refine ⟨W1, fun ty => run_copy_none W1 _ _ ty 20 _ a 0 0 0 c Tryz.underlying58 hsz rfl, ?_, grown_of_below0 (Below.refl _ _) _⟩
    obtain rfl : xs = [] := List.eq_nil_of_length_eq_zero hx
    simpa using hg
  | succ n =>
    obtain ⟨b, o, rfl, _⟩ := hsrc 0 (by omega)
    have hsrc' : ∀ j v, xs[j]? = some v → W1.cell? ((⟨b, o, none⟩ : Addr).add j) = some v := fun j v hj => by
      obtain ⟨hlt, e⟩ := List.getElem?_eq_some_iff.1 hj
      obtain ⟨b', o', e1, e2⟩ := hsrc j hlt
      cases e1
      rw [addr_add, e2, e]
    refine ⟨_, fun ty => by have h := run_copy_row (P := Tryz.prog) W1 58 58 ty 20 g 0 (n + 1) (n + 1) ⟨b, o, none⟩ (n + 1) c _ 20 xs Tryz.underlying58 hsz hg (by rw [hx]; simp) hsrc' (by simp; omega) h1; rw [h, hx]; rfl, ?_, ?_⟩
    · have h2 := setRow_heap W1 g _ (xs ++ (List.replicate (n + 1) Value.nilIface).drop xs.length).toArray 20 (0, 0) hg
      rw [hx, List.drop_eq_nil_of_le (by simp)] at h2
      simp only [List.append_nil] at h2
      simpa [hx] using h2
    · exact ⟨rfl, rfl, rfl, by simp [World.setRow], fun k _ hk => setRow_other W1 g k _ (fun e => hk (by rw [e]))⟩

/-- append to a row that a call owns, of whatever list. -/
theorem append_any {W : World} {lo c c0 : Nat} {a a0 : Option Addr} {xs ys : List Value} (hrow : W.ownsRow lo 20 1 (.slice a0 ys.length c0) ys.length ys)
    (hsrc : ∀ i (_ : i < xs.length), ∃ b o, a = some ⟨b, o, none⟩ ∧ W.cell? ⟨b, o + i, none⟩ = some xs[i]) (h1 : ∀ u ∈ xs, u.oneCell' = true) (hl : ys.length + xs.length ≤ 1000400) (hlo : lo ≤ W.heap.size) :
    ∃ a1 c1 w', (Builtin.append_ #[58, 58] 58 #[.slice a0 ys.length c0, .slice a xs.length c]).run Tryz.prog W = .ok (.slice a1 (ys.length + xs.length) c1) w' ∧
      w'.ownsRow lo 20 1 (.slice a1 (ys.length + xs.length) c1) (ys.length + xs.length) (ys ++ xs) ∧ W.grownBy w' (Value.slice a0 ys.length c0).ownBlock := by
  obtain ⟨i0, hi, hz0, hz1, hz2⟩ := info_parts info_any
  cases xs with
  | nil =>
    refine ⟨a0, c0, W, ?_, by simpa using hrow, grown_of_below0 (Below.refl _ _) _⟩
    rcases hrow.2 with ⟨hv, hn⟩ | ⟨g, cap, cur, hv, _, _, hnc, _⟩
    · rw [hn]
      simp only [Value.slice.injEq] at hv
      obtain ⟨rfl, _, rfl⟩ := hv
      cases a <;> simp [Builtin.append_, run_underlying Tryz.underlying58, sizeOf, typeInfo, hi, Builtin.lenOf, Builtin.firstCells, loadCells, loadCellsFrom]
    · simp only [Value.slice.injEq] at hv
      obtain ⟨rfl, _, rfl⟩ := hv
      cases a <;> simp [Builtin.append_, run_underlying Tryz.underlying58, sizeOf, typeInfo, hi, Builtin.lenOf, Builtin.firstCells, loadCells, loadCellsFrom, hnc, storeCells]
  | cons x xs =>
    obtain ⟨b, o, rfl, _⟩ := hsrc 0 (by simp)
    have hsrc' : ∀ j v, (x :: xs)[j]? = some v → W.cell? ((⟨b, o, none⟩ : Addr).add j) = some v := fun j v hj => by
      obtain ⟨hlt, e⟩ := List.getElem?_eq_some_iff.1 hj
      obtain ⟨b', o', e1, e2⟩ := hsrc j hlt
      cases e1
      rw [addr_add, e2, e]
    obtain ⟨v', w', hr, h2, h3, _⟩ := run_append_own_at (P := Tryz.prog) W lo 58 58 20 i0 .nilIface 1 16 Tryz.underlying58 hi hz0 hz1 hz2 rfl (by omega) _ _ _ hrow ⟨b, o, none⟩ (x :: xs).length c (x :: xs) (by simp) hsrc' h1 (by unfold maxLen; omega) (by omega) hlo
    obtain ⟨g, cap, rfl, _⟩ := h2.form (by simp; omega)
    exact ⟨_, _, _, hr, h2, h3⟩

/-- append, by its run. -/
theorem wpListIn_append_run {F : Fence} {n : Nat} {P : Program} (w : World) {ops : Array Oper} {rest : List Oper} {o : Oper} {a : Act} {Q : Exit → Act → World → Prop}
    (hg : o.guard = none) (s x : Operand) (t : TypeId) (hop : o.op = Op.call { callee := Callee.builtin Builtin.append, args := #[s, x], argTypes := #[t, t] })
    (v v2 u : Value) (w' : World) (hs : a.eval s = v) (hx : a.eval x = v2) (hrun : (Builtin.append_ #[t, t] o.type #[v, v2]).run P w = .ok u w')
    (hK : wpListIn F n P ops Q rest (a.put o.dst u) w') : wpListIn F n P ops Q (o :: rest) a w := by
  refine wpListIn_plain hg fun K hK' => ?_
  unfold Oper.wpIn
  refine ⟨?_, ?_⟩
  · simp [Oper.about, hop, resolve, Target.leads, Sem.run_pure]
  · rw [Oper.semAt_plain F _ _ (by rw [hop]; intro c hc'; cases hc')]
    simp [execOp, hop, resolve, invoke, builtin, hs, hx, hrun, Result.andThen]
    exact hK' _ _ hK

/-- Nothing below lo has turned but one block. -/
structure Step (lo Bv : Nat) (W W' : World) : Prop where
  os : W'.os = W.os
  tape : W'.tape = W.tape
  output : W'.output = W.output
  size : W.heap.size ≤ W'.heap.size
  block : ∀ b, b < lo → b ≠ Bv → W'.heap[b]? = W.heap[b]?
theorem Step.of {lo Bv : Nat} {W W' : World} (h : Below lo W W') (v : Value) : Step lo Bv W (W'.setCell ⟨Bv, 0, none⟩ v) :=
  ⟨h.os, h.tape, h.output, by simpa [World.setCell] using h.size, fun b hb hne => (Below.heap_setCell _ _ _ _ hne).trans (h.block b hb)⟩
theorem Step.refl (lo Bv : Nat) (W : World) : Step lo Bv W W := ⟨rfl, rfl, rfl, Nat.le_refl _, fun _ _ _ => rfl⟩

section
variable {C : Code} {l n Br Bv : Nat} {f : Value} {W : World} {Q : Exit → Act → World → Prop}

set_option maxRecDepth 100000 in
/-- null. -/
theorem round_nil (hC : IsBody C) (hq : ∀ a, Q .normal a W) : C.wpIn (Fence.wide.inRound l) n Tryz.prog Q (addAct f Br Bv .nilIface) W := by
  unfold addAct
  simp only [IsBody, Tryz.f64, bodyIn, Option.bind_some, Option.some.injEq] at hC
  subst hC
  gi_wp2
  exact hq _

set_option maxRecDepth 100000 in
/-- A text, when nothing has come yet. -/
theorem round_str0 (hC : IsBody C) {s : ByteArray} {lo : Nat} (hv : IBox W Bv .nilIface) (hBv : Bv < lo) (hlo : lo ≤ W.heap.size) (hs : s.size ≤ 1000000)
    (hq : ∀ a b W', Lib.BuilderAt 135 5 lo b (.pointer (some ⟨b, 0, none⟩)) (Lib.strCells s) W' → IBox W' Bv (.iface 133 (.pointer (some ⟨b, 0, none⟩))) → Step lo Bv W W' → Q .normal a W') :
    C.wpIn (Fence.wide.inRound l) n Tryz.prog Q (addAct f Br Bv (.iface 9 (.string s))) W := by
  have WS := Lib.hid (writeString_any lo W.heap.size [] s (W.alloc (.cells #[.pointer none, .slice none 0 0] 135)) (Or.inl ⟨hlo, .slice none 0 0, heap_alloc_at _ _, World.ownsRow_nil _ _ _ _, by simp [Value.ownBlock]⟩) (by simp; omega) (by simp; omega))
  have hc := hv.cell
  have hlt := hv.lt
  have HV := Lib.hid hv; have HQ := Lib.hid hq; have HB := Lib.hid hBv; have HL := Lib.hid hlo
  clear hv hq hs hBv hlo
  unfold addAct
  simp only [IsBody, Tryz.f64, bodyIn, Option.bind_some, Option.some.injEq] at hC
  subst hC
  gi_wp2
  refine ⟨trivial, fun h => absurd h (by decide), (CallsIn.inRound l (callsIn_wide.2 WS.out)).mono ?_⟩
  rintro e W2 ⟨rfl, hB, hb⟩
  have h0 : Below lo W W2 := ((Below.refl _ _).alloc HL.out _).trans hb
  have hv2 := HV.out.below h0 HB.out
  have c2 := hv2.cell; have f2 := hv2.fr
  have H2 := Lib.hid hB; have H0 := Lib.hid h0; have V2 := Lib.hid hv2
  clear hB hb h0 hv2 hc
  gi_wp2
  refine HQ.out _ _ _ ?_ (V2.out.set _) (Step.of H0.out _)
  exact builder_kept H2.out (grown_setCell _ _ _ _) (fun k hk => by cases hk; exact HB.out)

set_option maxRecDepth 100000 in
/-- A list, when nothing has come yet. -/
theorem round_arr0 (hC : IsBody C) {a : Option Addr} {c : Nat} {xs : List Value} {lo : Nat} (hv : IBox W Bv .nilIface) (hBv : Bv < lo) (hlo : lo ≤ W.heap.size) (hn : xs.length ≤ 400)
    (hsrc : ∀ i (_ : i < xs.length), ∃ b o, a = some ⟨b, o, none⟩ ∧ b < W.heap.size ∧ W.cell? ⟨b, o + i, none⟩ = some xs[i]) (h1 : ∀ u ∈ xs, u.oneCell' = true)
    (hq : ∀ a g W', W'.ownsRow lo 20 1 (.slice (some ⟨g, 0, none⟩) xs.length xs.length) xs.length xs → IBox W' Bv (.iface 58 (.slice (some ⟨g, 0, none⟩) xs.length xs.length)) → Step lo Bv W W' → Q .normal a W') :
    C.wpIn (Fence.wide.inRound l) n Tryz.prog Q (addAct f Br Bv (.iface 58 (.slice a xs.length c))) W := by
  have hm := makeAnys xs.length hn W
  obtain ⟨W1, hW1⟩ : ∃ W1, W1 = W.alloc (.cells (madeCells #[.nilIface] xs.length) 20) := ⟨_, rfl⟩
  rw [← hW1] at hm
  have hg : W1.heap[W.heap.size]? = some (.cells (List.replicate xs.length Value.nilIface).toArray 20 (0, 0)) := by rw [hW1]; exact arr_made W _
  have hb1 : Below W.heap.size W W1 := by rw [hW1]; exact (Below.refl _ _).alloc (Nat.le_refl _) _
  obtain ⟨W2, hc2, hg2, hgr⟩ := copy_made (c := c) hg rfl (fun i hi => by
    obtain ⟨b, o, e1, e2, e3⟩ := hsrc i hi
    exact ⟨b, o, e1, (hb1.cell (p := ⟨b, o + i, none⟩) e2).trans e3⟩) h1
  have hc := hv.cell
  have hv1 := hv.below hb1 hv.lt
  have hv2 := hv1.kept hgr (fun k hk => by cases hk; have := hv.lt; omega)
  have c2 := hv2.cell; have f2 := hv2.fr
  have HV2 := Lib.hid hv2; have HQ := Lib.hid hq; have HB := Lib.hid hBv; have HL := Lib.hid hlo; have HN := Lib.hid hn
  have HG := Lib.hid hg2
  have hbb : Below lo W W2 := (hb1.mono HL.out).grown hgr (Nat.le_trans HL.out hb1.size) (fun k hk => by cases hk; exact HL.out)
  have HBB := Lib.hid hbb
  clear hv hv1 hv2 hq hBv hlo hn hsrc h1 hg hb1 hg2 hgr hW1 hbb
  generalize hlen : xs.length = k at *
  have HX := Lib.hid hlen
  clear hlen
  unfold addAct
  simp only [IsBody, Tryz.f64, bodyIn, Option.bind_some, Option.some.injEq] at hC
  subst hC
  gi_wp2
  refine HQ.out _ W.heap.size _ ?_ (HV2.out.set _) (Step.of HBB.out _)
  refine ownsRow_setCell_below (base := lo) (a := ⟨Bv, 0, none⟩) ?_ HB.out _
  exact ⟨by rw [HX.out]; omega, .inr ⟨W.heap.size, k, xs.toArray, rfl, HL.out, HG.out, Nat.le_refl _, by have := HN.out; unfold maxLen; omega, by simp [HX.out], by rw [← HX.out]; simp⟩⟩

set_option maxRecDepth 100000 in
/-- A list behind lists. -/
theorem round_arr1 (hC : IsBody C) {a a0 : Option Addr} {c c0 : Nat} {xs ys : List Value} {lo : Nat} (hv : IBox W Bv (.iface 58 (.slice a0 ys.length c0))) (hrow : W.ownsRow lo 20 1 (.slice a0 ys.length c0) ys.length ys) (hBv : Bv < lo) (hlo : lo ≤ W.heap.size) (hn : xs.length ≤ 400) (hm : ys.length ≤ 1000000)
    (hsrc : ∀ i (_ : i < xs.length), ∃ b o, a = some ⟨b, o, none⟩ ∧ W.cell? ⟨b, o + i, none⟩ = some xs[i]) (h1 : ∀ u ∈ xs, u.oneCell' = true)
    (hq : ∀ a a1 c1 W', W'.ownsRow lo 20 1 (.slice a1 (ys.length + xs.length) c1) (ys.length + xs.length) (ys ++ xs) → IBox W' Bv (.iface 58 (.slice a1 (ys.length + xs.length) c1)) → Step lo Bv W W' → Q .normal a W') :
    C.wpIn (Fence.wide.inRound l) n Tryz.prog Q (addAct f Br Bv (.iface 58 (.slice a xs.length c))) W := by
  obtain ⟨a1, c1, W2, hap, hown, hgr⟩ := append_any (c := c) hrow hsrc h1 (by omega) hlo
  have hc := hv.cell
  have hne : ∀ k, (Value.slice a0 ys.length c0).ownBlock = some k → k ≠ Bv := fun k hk e => by have := (hrow.lt k hk).1; omega
  have hv2 := hv.kept hgr hne
  have c2 := hv2.cell; have f2 := hv2.fr
  have hbb : Below lo W W2 := (Below.refl _ _).grown hgr hlo (fun k hk => (hrow.lt k hk).1)
  have HV2 := Lib.hid hv2; have HQ := Lib.hid hq; have HB := Lib.hid hBv; have HO := Lib.hid hown; have HBB := Lib.hid hbb; have AP := Lib.hid hap
  clear hv hv2 hq hBv hlo hn hsrc h1 hgr hrow hm hne hbb hown hap
  generalize xs.length = k at *
  generalize ys.length = k0 at *
  generalize hkk : k0 + k = kk at *
  clear hkk
  unfold addAct
  simp only [IsBody, Tryz.f64, bodyIn, Option.bind_some, Option.some.injEq] at hC
  subst hC
  gi_wp2_with (gi_at_builtin; refine wpListIn_append_run _ rfl _ _ 58 rfl _ _ _ W2 rfl rfl AP.out ?_)
  exact HQ.out _ _ _ _ (ownsRow_setCell_below (a := ⟨Bv, 0, none⟩) HO.out HB.out _) (HV2.out.set _) (Step.of HBB.out _)

set_option maxRecDepth 100000 in
/-- A map, when nothing has come yet. -/
theorem round_map0 (hC : IsBody C) {b : Nat} {m : List (ByteArray × Value)} {lo : Nat} (hv : IBox W Bv .nilIface) (hM : MapAt W b m) (hBv : Bv < lo) (hlo : lo ≤ W.heap.size)
    (hq : ∀ a g W', lo ≤ g → MapAt W' g m → IBox W' Bv (.iface 61 (.map (some g))) → Step lo Bv W W' → Q .normal a W') :
    C.wpIn (Fence.wide.inRound l) n Tryz.prog Q (addAct f Br Bv (.iface 61 (.map (some b)))) W := by
  have CL := Lib.hid (clone_any hM)
  have hc := hv.cell
  have HV := Lib.hid hv; have HQ := Lib.hid hq; have HB := Lib.hid hBv; have HL := Lib.hid hlo
  clear hv hq hBv hlo hM
  unfold addAct
  simp only [IsBody, Tryz.f64, bodyIn, Option.bind_some, Option.some.injEq] at hC
  subst hC
  gi_wp2
  refine ⟨trivial, fun h => absurd h (by decide), (CallsIn.inRound l (callsIn_wide.2 CL.out)).mono ?_⟩
  rintro e W2 ⟨rfl, hm, hb⟩
  have hv2 := HV.out.below hb HV.out.lt
  have c2 := hv2.cell; have f2 := hv2.fr
  have HM := Lib.hid hm; have H0 := Lib.hid (hb.mono HL.out); have V2 := Lib.hid hv2
  clear hm hb hv2 hc
  gi_wp2
  refine HQ.out _ W.heap.size _ HL.out (HM.out.same (Below.heap_setCell _ _ _ _ ?_)) (V2.out.set _) (Step.of H0.out _)
  have := HV.out.lt
  show W.heap.size ≠ Bv
  omega

set_option maxRecDepth 100000 in
/-- A map behind maps. -/
theorem round_map1 (hC : IsBody C) {b g : Nat} {m ms : List (ByteArray × Value)} {lo : Nat} (hv : IBox W Bv (.iface 61 (.map (some g)))) (hg : MapAt W g ms) (hM : MapAt W b m) (hgb : g ≠ b) (hgl : lo ≤ g) (hBv : Bv < lo) (hlo : lo ≤ W.heap.size) (l1 : m.length ≤ 1000000) (l2 : ms.length ≤ 1000000) (k1 : ∀ p ∈ m, p.1.size ≤ maxLen) (k2 : ∀ p ∈ ms, p.1.size ≤ maxLen)
    (hq : ∀ a mv W', MapAt W' g mv → Laid mv ms m → IBox W' Bv (.iface 61 (.map (some g))) → Step lo Bv W W' → Q .normal a W') :
    C.wpIn (Fence.wide.inRound l) n Tryz.prog Q (addAct f Br Bv (.iface 61 (.map (some b)))) W := by
  have CL := Lib.hid (copy_any hg hM hgb l2 l1 k2 k1)
  have hc := hv.cell
  have HV := Lib.hid hv; have HQ := Lib.hid hq; have HB := Lib.hid hBv; have HL := Lib.hid hlo; have HG := Lib.hid hgl
  clear hv hq hBv hlo hM hg hgb l1 l2 k1 k2 hgl
  unfold addAct
  simp only [IsBody, Tryz.f64, bodyIn, Option.bind_some, Option.some.injEq] at hC
  subst hC
  gi_wp2
  refine ⟨trivial, fun h => absurd h (by decide), (CallsIn.inRound l (callsIn_wide.2 CL.out)).mono ?_⟩
  rintro e W2 ⟨rfl, ⟨mv, hm, hl⟩, hgr⟩
  have hv2 := HV.out.kept hgr (fun k hk => by cases hk; have := HB.out; have := HG.out; omega)
  have HM := Lib.hid hm; have HLD := Lib.hid hl; have V2 := Lib.hid hv2
  have H0 := Lib.hid ((Below.refl lo W).grown hgr HL.out (fun k hk => by cases hk; exact HG.out))
  clear hm hl hgr hv2
  gi_wp2
  exact HQ.out _ _ _ HM.out HLD.out V2.out ⟨H0.out.os, H0.out.tape, H0.out.output, H0.out.size, fun b hb _ => H0.out.block b hb⟩

set_option maxRecDepth 100000 in
/-- A text behind texts. -/
theorem round_str1 (hC : IsBody C) {b : Nat} {s s0 : ByteArray} {lo : Nat} (hv : IBox W Bv (.iface 133 (.pointer (some ⟨b, 0, none⟩)))) (hB : Lib.BuilderAt 135 5 lo b (.pointer (some ⟨b, 0, none⟩)) (Lib.strCells s0) W) (hBv : Bv < lo) (hlo : lo ≤ W.heap.size) (hs : s.size ≤ 1000000) (hs0 : s0.size ≤ 1000000)
    (hq : ∀ a W', Lib.BuilderAt 135 5 lo b (.pointer (some ⟨b, 0, none⟩)) (Lib.strCells (s0 ++ s)) W' → IBox W' Bv (.iface 133 (.pointer (some ⟨b, 0, none⟩))) → Step lo Bv W W' → Q .normal a W') :
    C.wpIn (Fence.wide.inRound l) n Tryz.prog Q (addAct f Br Bv (.iface 9 (.string s))) W := by
  have WS := Lib.hid (writeString_any lo b (Lib.strCells s0) s W (Or.inr hB) (by rw [Lib.strCells_length]; omega) hlo)
  have hc := hv.cell
  have HV := Lib.hid hv; have HQ := Lib.hid hq; have HB := Lib.hid hBv
  clear hv hq hs hs0 hBv hlo hB
  unfold addAct
  simp only [IsBody, Tryz.f64, bodyIn, Option.bind_some, Option.some.injEq] at hC
  subst hC
  gi_wp2
  refine ⟨trivial, fun h => absurd h (by decide), (CallsIn.inRound l (callsIn_wide.2 WS.out)).mono ?_⟩
  rintro e W2 ⟨rfl, hB, hb⟩
  have H2 := Lib.hid hB; have H0 := Lib.hid hb; have V2 := Lib.hid (HV.out.below hb HB.out)
  clear hB hb
  gi_wp2
  refine HQ.out _ _ ?_ V2.out ⟨H0.out.os, H0.out.tape, H0.out.output, H0.out.size, fun b hb _ => H0.out.block b hb⟩
  have e : Lib.strCells s0 ++ Lib.strCells s = Lib.strCells (s0 ++ s) := by simp [Lib.strCells]
  rw [← e]
  exact H2.out

/-- What an addition gives: an error, or a value that G tells of. -/
def AddsTo (G : Value → World → Prop) (E : Prop) (W : World) (e : Ending) (w' : World) : Prop :=
  ∃ u, e = .returned u ∧ Below W.heap.size W w' ∧
    (((u = .nilIface ∨ ∃ t y, u = .iface t y) ∧ (∀ w, (Instr.typeAssert u 20 65 true).run Tryz.prog w = .ok (.tuple #[.nilIface, .bool false]) w) ∧ G u w') ∨ (E ∧ IsErr u))

set_option maxRecDepth 100000 in
/-- A bool or a number, behind a value. -/
theorem round_other (hC : IsBody C) {tx : TypeId} {yx : Value} (hxs : ∀ w, (Instr.typeAssert (.iface tx yx) 20 9 true).run Tryz.prog w = .ok (.tuple #[.string ByteArray.empty, .bool false]) w) (hxa : ∀ w, (Instr.typeAssert (.iface tx yx) 20 58 true).run Tryz.prog w = .ok (.tuple #[.slice none 0 0, .bool false]) w) (hxm : ∀ w, (Instr.typeAssert (.iface tx yx) 20 61 true).run Tryz.prog w = .ok (.tuple #[.map none, .bool false]) w) {tv : TypeId} {yv : Value} {G : Value → World → Prop} {E : Prop} (hv : IBox W Bv (.iface tv yv)) (hnb : ∀ w, (Instr.typeAssert (.iface tv yv) 20 133 true).run Tryz.prog w = .ok (.tuple #[.pointer none, .bool false]) w)
    (hr : IBox W Br .nilIface) (hne : Bv ≠ Br)
    (hadd : Calls Tryz.prog 108 #[.nilIface, .iface tv yv, .iface tx yx] W (AddsTo G E W))
    (hq : ∀ a u w', G u w' → IBox (w'.setCell ⟨Bv, 0, none⟩ u) Bv u → Below W.heap.size W w' → Q .normal a (w'.setCell ⟨Bv, 0, none⟩ u))
    (hret : ∀ a u w', E → IsErr u → Below W.heap.size W w' → Q .ret a ((w'.setCell ⟨Bv, 0, none⟩ u).setCell ⟨Br, 0, none⟩ u)) :
    C.wpIn (Fence.wide.inRound l) n Tryz.prog Q (addAct f Br Bv (.iface tx yx)) W := by
  have hc := hv.cell
  have HV := Lib.hid hv; have HR := Lib.hid hr; have HQ := Lib.hid hq; have HT := Lib.hid hret; have HA := Lib.hid hadd; have HN := Lib.hid hne
  clear hv hr hq hret hadd hne
  unfold addAct
  simp only [IsBody, Tryz.f64, bodyIn, Option.bind_some, Option.some.injEq] at hC
  subst hC
  gi_wp2
  refine ⟨trivial, fun h => absurd h (by decide), (CallsIn.inRound l (callsIn_wide.2 HA.out)).mono ?_⟩
  rintro e w1 ⟨u, rfl, hb, (⟨hf, hne, hG⟩ | ⟨hE0, t1, y1, rfl, hta⟩)⟩
  · have hv2 := HV.out.below hb HV.out.lt
    have c2 := hv2.cell; have f2 := hv2.fr
    have V2 := Lib.hid (hv2.set u); have GG := Lib.hid hG; have HB := Lib.hid hb
    have cx : (w1.setCell ⟨Bv, 0, none⟩ u).cell? ⟨Bv, 0, none⟩ = some u := V2.out.cell
    clear hv2 hG hb hc
    rcases hf with rfl | ⟨t1, y1, rfl⟩
    all_goals
      gi_wp2
      exact HQ.out _ _ _ GG.out V2.out HB.out
  · have hv2 := HV.out.below hb HV.out.lt
    have hr2 := HR.out.below hb HR.out.lt
    have c2 := hv2.cell; have f2 := hv2.fr; have c3 := hr2.cell; have f3 := hr2.fr
    have HB := Lib.hid hb
    have V2 := Lib.hid (hv2.set (.iface t1 y1))
    have cx : (w1.setCell ⟨Bv, 0, none⟩ (.iface t1 y1)).cell? ⟨Bv, 0, none⟩ = some (.iface t1 y1) := V2.out.cell
    have hr3 := hr2.kept (grown_setCell w1 Bv 0 (.iface t1 y1)) (fun k hk => by cases hk; exact HN.out)
    have c4 := hr3.cell; have f4 := hr3.fr
    clear hv2 hr2 hr3 hb hc
    have HE := Lib.hid (show IsErr (.iface t1 y1) from ⟨_, _, rfl, hta⟩); have HE0 := Lib.hid hE0
    clear hE0
    gi_wp2
    exact HT.out _ _ _ HE0.out HE.out HB.out

set_option maxRecDepth 100000 in
/-- A bool or a number, when nothing has come yet. -/
theorem round_other0 (hC : IsBody C) {tx : TypeId} {yx : Value} (hxs : ∀ w, (Instr.typeAssert (.iface tx yx) 20 9 true).run Tryz.prog w = .ok (.tuple #[.string ByteArray.empty, .bool false]) w) (hxa : ∀ w, (Instr.typeAssert (.iface tx yx) 20 58 true).run Tryz.prog w = .ok (.tuple #[.slice none 0 0, .bool false]) w) (hxm : ∀ w, (Instr.typeAssert (.iface tx yx) 20 61 true).run Tryz.prog w = .ok (.tuple #[.map none, .bool false]) w) {G : Value → World → Prop} {E : Prop} (hv : IBox W Bv .nilIface) 
    (hr : IBox W Br .nilIface) (hne : Bv ≠ Br)
    (hadd : Calls Tryz.prog 108 #[.nilIface, .nilIface, .iface tx yx] W (AddsTo G E W))
    (hq : ∀ a u w', G u w' → IBox (w'.setCell ⟨Bv, 0, none⟩ u) Bv u → Below W.heap.size W w' → Q .normal a (w'.setCell ⟨Bv, 0, none⟩ u))
    (hret : ∀ a u w', E → IsErr u → Below W.heap.size W w' → Q .ret a ((w'.setCell ⟨Bv, 0, none⟩ u).setCell ⟨Br, 0, none⟩ u)) :
    C.wpIn (Fence.wide.inRound l) n Tryz.prog Q (addAct f Br Bv (.iface tx yx)) W := by
  have hc := hv.cell
  have HV := Lib.hid hv; have HR := Lib.hid hr; have HQ := Lib.hid hq; have HT := Lib.hid hret; have HA := Lib.hid hadd; have HN := Lib.hid hne
  clear hv hr hq hret hadd hne
  unfold addAct
  simp only [IsBody, Tryz.f64, bodyIn, Option.bind_some, Option.some.injEq] at hC
  subst hC
  gi_wp2
  refine ⟨trivial, fun h => absurd h (by decide), (CallsIn.inRound l (callsIn_wide.2 HA.out)).mono ?_⟩
  rintro e w1 ⟨u, rfl, hb, (⟨hf, hne, hG⟩ | ⟨hE0, t1, y1, rfl, hta⟩)⟩
  · have hv2 := HV.out.below hb HV.out.lt
    have c2 := hv2.cell; have f2 := hv2.fr
    have V2 := Lib.hid (hv2.set u); have GG := Lib.hid hG; have HB := Lib.hid hb
    have cx : (w1.setCell ⟨Bv, 0, none⟩ u).cell? ⟨Bv, 0, none⟩ = some u := V2.out.cell
    clear hv2 hG hb hc
    rcases hf with rfl | ⟨t1, y1, rfl⟩
    all_goals
      gi_wp2
      exact HQ.out _ _ _ GG.out V2.out HB.out
  · have hv2 := HV.out.below hb HV.out.lt
    have hr2 := HR.out.below hb HR.out.lt
    have c2 := hv2.cell; have f2 := hv2.fr; have c3 := hr2.cell; have f3 := hr2.fr
    have HB := Lib.hid hb
    have V2 := Lib.hid (hv2.set (.iface t1 y1))
    have cx : (w1.setCell ⟨Bv, 0, none⟩ (.iface t1 y1)).cell? ⟨Bv, 0, none⟩ = some (.iface t1 y1) := V2.out.cell
    have hr3 := hr2.kept (grown_setCell w1 Bv 0 (.iface t1 y1)) (fun k hk => by cases hk; exact HN.out)
    have c4 := hr3.cell; have f4 := hr3.fr
    clear hv2 hr2 hr3 hb hc
    have HE := Lib.hid (show IsErr (.iface t1 y1) from ⟨_, _, rfl, hta⟩); have HE0 := Lib.hid hE0
    clear hE0
    gi_wp2
    exact HT.out _ _ _ HE0.out HE.out HB.out

set_option maxRecDepth 100000 in
/-- A text behind a value that is none. -/
theorem round_strx (hC : IsBody C) {s : ByteArray} {tv : TypeId} {yv : Value} {G : Value → World → Prop} {E : Prop} (hv : IBox W Bv (.iface tv yv)) (hnb : ∀ w, (Instr.typeAssert (.iface tv yv) 20 133 true).run Tryz.prog w = .ok (.tuple #[.pointer none, .bool false]) w)
    (hr : IBox W Br .nilIface) (hne : Bv ≠ Br)
    (hadd : Calls Tryz.prog 108 #[.nilIface, .iface tv yv, .iface 9 (.string s)] W (AddsTo G E W))
    (hq : ∀ a u w', G u w' → IBox (w'.setCell ⟨Bv, 0, none⟩ u) Bv u → Below W.heap.size W w' → Q .normal a (w'.setCell ⟨Bv, 0, none⟩ u))
    (hret : ∀ a u w', E → IsErr u → Below W.heap.size W w' → Q .ret a ((w'.setCell ⟨Bv, 0, none⟩ u).setCell ⟨Br, 0, none⟩ u)) :
    C.wpIn (Fence.wide.inRound l) n Tryz.prog Q (addAct f Br Bv (.iface 9 (.string s))) W := by
  have hc := hv.cell
  have HV := Lib.hid hv; have HR := Lib.hid hr; have HQ := Lib.hid hq; have HT := Lib.hid hret; have HA := Lib.hid hadd; have HN := Lib.hid hne
  clear hv hr hq hret hadd hne
  unfold addAct
  simp only [IsBody, Tryz.f64, bodyIn, Option.bind_some, Option.some.injEq] at hC
  subst hC
  gi_wp2
  refine ⟨trivial, fun h => absurd h (by decide), (CallsIn.inRound l (callsIn_wide.2 HA.out)).mono ?_⟩
  rintro e w1 ⟨u, rfl, hb, (⟨hf, hne, hG⟩ | ⟨hE0, t1, y1, rfl, hta⟩)⟩
  · have hv2 := HV.out.below hb HV.out.lt
    have c2 := hv2.cell; have f2 := hv2.fr
    have V2 := Lib.hid (hv2.set u); have GG := Lib.hid hG; have HB := Lib.hid hb
    have cx : (w1.setCell ⟨Bv, 0, none⟩ u).cell? ⟨Bv, 0, none⟩ = some u := V2.out.cell
    clear hv2 hG hb hc
    rcases hf with rfl | ⟨t1, y1, rfl⟩
    all_goals
      gi_wp2
      exact HQ.out _ _ _ GG.out V2.out HB.out
  · have hv2 := HV.out.below hb HV.out.lt
    have hr2 := HR.out.below hb HR.out.lt
    have c2 := hv2.cell; have f2 := hv2.fr; have c3 := hr2.cell; have f3 := hr2.fr
    have HB := Lib.hid hb
    have V2 := Lib.hid (hv2.set (.iface t1 y1))
    have cx : (w1.setCell ⟨Bv, 0, none⟩ (.iface t1 y1)).cell? ⟨Bv, 0, none⟩ = some (.iface t1 y1) := V2.out.cell
    have hr3 := hr2.kept (grown_setCell w1 Bv 0 (.iface t1 y1)) (fun k hk => by cases hk; exact HN.out)
    have c4 := hr3.cell; have f4 := hr3.fr
    clear hv2 hr2 hr3 hb hc
    have HE := Lib.hid (show IsErr (.iface t1 y1) from ⟨_, _, rfl, hta⟩); have HE0 := Lib.hid hE0
    clear hE0
    gi_wp2
    exact HT.out _ _ _ HE0.out HE.out HB.out

set_option maxRecDepth 100000 in
/-- A list behind a value that is none. -/
theorem round_arrx (hC : IsBody C) {y0 : Value} {tv : TypeId} {yv : Value} {G : Value → World → Prop} {E : Prop} (hv : IBox W Bv (.iface tv yv)) (hnb : ∀ w, (Instr.typeAssert (.iface tv yv) 20 133 true).run Tryz.prog w = .ok (.tuple #[.pointer none, .bool false]) w) (hna : ∀ w, (Instr.typeAssert (.iface tv yv) 20 58 true).run Tryz.prog w = .ok (.tuple #[.slice none 0 0, .bool false]) w)
    (hr : IBox W Br .nilIface) (hne : Bv ≠ Br)
    (hadd : Calls Tryz.prog 108 #[.nilIface, .iface tv yv, .iface 58 y0] W (AddsTo G E W))
    (hq : ∀ a u w', G u w' → IBox (w'.setCell ⟨Bv, 0, none⟩ u) Bv u → Below W.heap.size W w' → Q .normal a (w'.setCell ⟨Bv, 0, none⟩ u))
    (hret : ∀ a u w', E → IsErr u → Below W.heap.size W w' → Q .ret a ((w'.setCell ⟨Bv, 0, none⟩ u).setCell ⟨Br, 0, none⟩ u)) :
    C.wpIn (Fence.wide.inRound l) n Tryz.prog Q (addAct f Br Bv (.iface 58 y0)) W := by
  have hc := hv.cell
  have HV := Lib.hid hv; have HR := Lib.hid hr; have HQ := Lib.hid hq; have HT := Lib.hid hret; have HA := Lib.hid hadd; have HN := Lib.hid hne
  clear hv hr hq hret hadd hne
  unfold addAct
  simp only [IsBody, Tryz.f64, bodyIn, Option.bind_some, Option.some.injEq] at hC
  subst hC
  gi_wp2
  refine ⟨trivial, fun h => absurd h (by decide), (CallsIn.inRound l (callsIn_wide.2 HA.out)).mono ?_⟩
  rintro e w1 ⟨u, rfl, hb, (⟨hf, hne, hG⟩ | ⟨hE0, t1, y1, rfl, hta⟩)⟩
  · have hv2 := HV.out.below hb HV.out.lt
    have c2 := hv2.cell; have f2 := hv2.fr
    have V2 := Lib.hid (hv2.set u); have GG := Lib.hid hG; have HB := Lib.hid hb
    have cx : (w1.setCell ⟨Bv, 0, none⟩ u).cell? ⟨Bv, 0, none⟩ = some u := V2.out.cell
    clear hv2 hG hb hc
    rcases hf with rfl | ⟨t1, y1, rfl⟩
    all_goals
      gi_wp2
      exact HQ.out _ _ _ GG.out V2.out HB.out
  · have hv2 := HV.out.below hb HV.out.lt
    have hr2 := HR.out.below hb HR.out.lt
    have c2 := hv2.cell; have f2 := hv2.fr; have c3 := hr2.cell; have f3 := hr2.fr
    have HB := Lib.hid hb
    have V2 := Lib.hid (hv2.set (.iface t1 y1))
    have cx : (w1.setCell ⟨Bv, 0, none⟩ (.iface t1 y1)).cell? ⟨Bv, 0, none⟩ = some (.iface t1 y1) := V2.out.cell
    have hr3 := hr2.kept (grown_setCell w1 Bv 0 (.iface t1 y1)) (fun k hk => by cases hk; exact HN.out)
    have c4 := hr3.cell; have f4 := hr3.fr
    clear hv2 hr2 hr3 hb hc
    have HE := Lib.hid (show IsErr (.iface t1 y1) from ⟨_, _, rfl, hta⟩); have HE0 := Lib.hid hE0
    clear hE0
    gi_wp2
    exact HT.out _ _ _ HE0.out HE.out HB.out

set_option maxRecDepth 100000 in
/-- A map behind a value that is none. -/
theorem round_mapx (hC : IsBody C) {y0 : Value} {tv : TypeId} {yv : Value} {G : Value → World → Prop} {E : Prop} (hv : IBox W Bv (.iface tv yv)) (hnb : ∀ w, (Instr.typeAssert (.iface tv yv) 20 133 true).run Tryz.prog w = .ok (.tuple #[.pointer none, .bool false]) w) (hnm : ∀ w, (Instr.typeAssert (.iface tv yv) 20 61 true).run Tryz.prog w = .ok (.tuple #[.map none, .bool false]) w)
    (hr : IBox W Br .nilIface) (hne : Bv ≠ Br)
    (hadd : Calls Tryz.prog 108 #[.nilIface, .iface tv yv, .iface 61 y0] W (AddsTo G E W))
    (hq : ∀ a u w', G u w' → IBox (w'.setCell ⟨Bv, 0, none⟩ u) Bv u → Below W.heap.size W w' → Q .normal a (w'.setCell ⟨Bv, 0, none⟩ u))
    (hret : ∀ a u w', E → IsErr u → Below W.heap.size W w' → Q .ret a ((w'.setCell ⟨Bv, 0, none⟩ u).setCell ⟨Br, 0, none⟩ u)) :
    C.wpIn (Fence.wide.inRound l) n Tryz.prog Q (addAct f Br Bv (.iface 61 y0)) W := by
  have hc := hv.cell
  have HV := Lib.hid hv; have HR := Lib.hid hr; have HQ := Lib.hid hq; have HT := Lib.hid hret; have HA := Lib.hid hadd; have HN := Lib.hid hne
  clear hv hr hq hret hadd hne
  unfold addAct
  simp only [IsBody, Tryz.f64, bodyIn, Option.bind_some, Option.some.injEq] at hC
  subst hC
  gi_wp2
  refine ⟨trivial, fun h => absurd h (by decide), (CallsIn.inRound l (callsIn_wide.2 HA.out)).mono ?_⟩
  rintro e w1 ⟨u, rfl, hb, (⟨hf, hne, hG⟩ | ⟨hE0, t1, y1, rfl, hta⟩)⟩
  · have hv2 := HV.out.below hb HV.out.lt
    have c2 := hv2.cell; have f2 := hv2.fr
    have V2 := Lib.hid (hv2.set u); have GG := Lib.hid hG; have HB := Lib.hid hb
    have cx : (w1.setCell ⟨Bv, 0, none⟩ u).cell? ⟨Bv, 0, none⟩ = some u := V2.out.cell
    clear hv2 hG hb hc
    rcases hf with rfl | ⟨t1, y1, rfl⟩
    all_goals
      gi_wp2
      exact HQ.out _ _ _ GG.out V2.out HB.out
  · have hv2 := HV.out.below hb HV.out.lt
    have hr2 := HR.out.below hb HR.out.lt
    have c2 := hv2.cell; have f2 := hv2.fr; have c3 := hr2.cell; have f3 := hr2.fr
    have HB := Lib.hid hb
    have V2 := Lib.hid (hv2.set (.iface t1 y1))
    have cx : (w1.setCell ⟨Bv, 0, none⟩ (.iface t1 y1)).cell? ⟨Bv, 0, none⟩ = some (.iface t1 y1) := V2.out.cell
    have hr3 := hr2.kept (grown_setCell w1 Bv 0 (.iface t1 y1)) (fun k hk => by cases hk; exact HN.out)
    have c4 := hr3.cell; have f4 := hr3.fr
    clear hv2 hr2 hr3 hb hc
    have HE := Lib.hid (show IsErr (.iface t1 y1) from ⟨_, _, rfl, hta⟩); have HE0 := Lib.hid hE0
    clear hE0
    gi_wp2
    exact HT.out _ _ _ HE0.out HE.out HB.out

set_option maxRecDepth 100000 in
/-- A bool or a number behind texts. -/
theorem round_sother (hC : IsBody C) {tx : TypeId} {yx : Value} (hxs : ∀ w, (Instr.typeAssert (.iface tx yx) 20 9 true).run Tryz.prog w = .ok (.tuple #[.string ByteArray.empty, .bool false]) w) (hxa : ∀ w, (Instr.typeAssert (.iface tx yx) 20 58 true).run Tryz.prog w = .ok (.tuple #[.slice none 0 0, .bool false]) w) (hxm : ∀ w, (Instr.typeAssert (.iface tx yx) 20 61 true).run Tryz.prog w = .ok (.tuple #[.map none, .bool false]) w) {b lo : Nat} {s0 : ByteArray} (hv : IBox W Bv (.iface 133 (.pointer (some ⟨b, 0, none⟩)))) (hB : Lib.BuilderAt 135 5 lo b (.pointer (some ⟨b, 0, none⟩)) (Lib.strCells s0) W)
    (hr : IBox W Br .nilIface) (hBv : Bv < lo) (hBr : Br < lo) (hne : Bv ≠ Br) (hlo : lo ≤ W.heap.size)
    (hadd : ∀ w, Calls Tryz.prog 108 #[.nilIface, .iface 9 (.string s0), .iface tx yx] w fun e w' => ∃ u, e = .returned u ∧ IsErr u ∧ Below w.heap.size w w')
    (hret : ∀ a u w', IsErr u → (∃ w0 v0, Below lo W w0 ∧ Below (w0.setCell ⟨Bv, 0, none⟩ v0).heap.size (w0.setCell ⟨Bv, 0, none⟩ v0) w') → Q .ret a ((w'.setCell ⟨Bv, 0, none⟩ u).setCell ⟨Br, 0, none⟩ u)) :
    C.wpIn (Fence.wide.inRound l) n Tryz.prog Q (addAct f Br Bv (.iface tx yx)) W := by
  have hc := hv.cell
  have SB := Lib.hid (string_any lo b s0 W (Or.inr hB) hlo)
  have HV := Lib.hid hv; have HR := Lib.hid hr; have HT := Lib.hid hret; have HA := Lib.hid hadd; have HN := Lib.hid hne; have HBv := Lib.hid hBv; have HBr := Lib.hid hBr; have HL := Lib.hid hlo
  clear hv hr hret hBv hBr hlo hadd hne hB
  unfold addAct
  simp only [IsBody, Tryz.f64, bodyIn, Option.bind_some, Option.some.injEq] at hC
  subst hC
  gi_wp2
  refine ⟨trivial, fun h => absurd h (by decide), (CallsIn.inRound l (callsIn_wide.2 SB.out)).mono ?_⟩
  rintro e w0 ⟨rfl, hb0⟩
  have hv0 := HV.out.below hb0 HBv.out
  have hr0 := HR.out.below hb0 HBr.out
  have c0 := hv0.cell; have f0 := hv0.fr
  have V0 := Lib.hid (hv0.set (.iface 9 (.string s0)))
  have R0 := Lib.hid (hr0.kept (grown_setCell w0 Bv 0 (.iface 9 (.string s0))) (fun k hk => by cases hk; exact HN.out))
  have HB0 := Lib.hid hb0
  have cy : (w0.setCell ⟨Bv, 0, none⟩ (.iface 9 (.string s0))).cell? ⟨Bv, 0, none⟩ = some (.iface 9 (.string s0)) := V0.out.cell
  clear hv0 hr0 hb0 hc
  gi_wp2
  refine ⟨trivial, fun h => absurd h (by decide), (CallsIn.inRound l (callsIn_wide.2 (HA.out _))).mono ?_⟩
  rintro e w1 ⟨u, rfl, ⟨t1, y1, rfl, hta⟩, hb⟩
  have hv2 := V0.out.below hb V0.out.lt
  have hr2 := R0.out.below hb R0.out.lt
  have c2 := hv2.cell; have f2 := hv2.fr; have c3 := hr2.cell; have f3 := hr2.fr
  have HB := Lib.hid hb
  have V2 := Lib.hid (hv2.set (.iface t1 y1))
  have cx : (w1.setCell ⟨Bv, 0, none⟩ (.iface t1 y1)).cell? ⟨Bv, 0, none⟩ = some (.iface t1 y1) := V2.out.cell
  have hr3 := hr2.kept (grown_setCell w1 Bv 0 (.iface t1 y1)) (fun k hk => by cases hk; exact HN.out)
  have c4 := hr3.cell; have f4 := hr3.fr
  clear hv2 hr2 hr3 hb c0 f0 cy
  have HE := Lib.hid (show IsErr (.iface t1 y1) from ⟨_, _, rfl, hta⟩)
  gi_wp2
  exact HT.out _ _ _ HE.out ⟨_, _, HB0.out, HB.out⟩

set_option maxRecDepth 100000 in
/-- A list behind texts. -/
theorem round_sarr (hC : IsBody C) {y0 : Value} {b lo : Nat} {s0 : ByteArray} (hv : IBox W Bv (.iface 133 (.pointer (some ⟨b, 0, none⟩)))) (hB : Lib.BuilderAt 135 5 lo b (.pointer (some ⟨b, 0, none⟩)) (Lib.strCells s0) W)
    (hr : IBox W Br .nilIface) (hBv : Bv < lo) (hBr : Br < lo) (hne : Bv ≠ Br) (hlo : lo ≤ W.heap.size)
    (hadd : ∀ w, Calls Tryz.prog 108 #[.nilIface, .iface 9 (.string s0), .iface 58 y0] w fun e w' => ∃ u, e = .returned u ∧ IsErr u ∧ Below w.heap.size w w')
    (hret : ∀ a u w', IsErr u → (∃ w0 v0, Below lo W w0 ∧ Below (w0.setCell ⟨Bv, 0, none⟩ v0).heap.size (w0.setCell ⟨Bv, 0, none⟩ v0) w') → Q .ret a ((w'.setCell ⟨Bv, 0, none⟩ u).setCell ⟨Br, 0, none⟩ u)) :
    C.wpIn (Fence.wide.inRound l) n Tryz.prog Q (addAct f Br Bv (.iface 58 y0)) W := by
  have hc := hv.cell
  have SB := Lib.hid (string_any lo b s0 W (Or.inr hB) hlo)
  have HV := Lib.hid hv; have HR := Lib.hid hr; have HT := Lib.hid hret; have HA := Lib.hid hadd; have HN := Lib.hid hne; have HBv := Lib.hid hBv; have HBr := Lib.hid hBr; have HL := Lib.hid hlo
  clear hv hr hret hBv hBr hlo hadd hne hB
  unfold addAct
  simp only [IsBody, Tryz.f64, bodyIn, Option.bind_some, Option.some.injEq] at hC
  subst hC
  gi_wp2
  refine ⟨trivial, fun h => absurd h (by decide), (CallsIn.inRound l (callsIn_wide.2 SB.out)).mono ?_⟩
  rintro e w0 ⟨rfl, hb0⟩
  have hv0 := HV.out.below hb0 HBv.out
  have hr0 := HR.out.below hb0 HBr.out
  have c0 := hv0.cell; have f0 := hv0.fr
  have V0 := Lib.hid (hv0.set (.iface 9 (.string s0)))
  have R0 := Lib.hid (hr0.kept (grown_setCell w0 Bv 0 (.iface 9 (.string s0))) (fun k hk => by cases hk; exact HN.out))
  have HB0 := Lib.hid hb0
  have cy : (w0.setCell ⟨Bv, 0, none⟩ (.iface 9 (.string s0))).cell? ⟨Bv, 0, none⟩ = some (.iface 9 (.string s0)) := V0.out.cell
  clear hv0 hr0 hb0 hc
  gi_wp2
  refine ⟨trivial, fun h => absurd h (by decide), (CallsIn.inRound l (callsIn_wide.2 (HA.out _))).mono ?_⟩
  rintro e w1 ⟨u, rfl, ⟨t1, y1, rfl, hta⟩, hb⟩
  have hv2 := V0.out.below hb V0.out.lt
  have hr2 := R0.out.below hb R0.out.lt
  have c2 := hv2.cell; have f2 := hv2.fr; have c3 := hr2.cell; have f3 := hr2.fr
  have HB := Lib.hid hb
  have V2 := Lib.hid (hv2.set (.iface t1 y1))
  have cx : (w1.setCell ⟨Bv, 0, none⟩ (.iface t1 y1)).cell? ⟨Bv, 0, none⟩ = some (.iface t1 y1) := V2.out.cell
  have hr3 := hr2.kept (grown_setCell w1 Bv 0 (.iface t1 y1)) (fun k hk => by cases hk; exact HN.out)
  have c4 := hr3.cell; have f4 := hr3.fr
  clear hv2 hr2 hr3 hb c0 f0 cy
  have HE := Lib.hid (show IsErr (.iface t1 y1) from ⟨_, _, rfl, hta⟩)
  gi_wp2
  exact HT.out _ _ _ HE.out ⟨_, _, HB0.out, HB.out⟩

set_option maxRecDepth 100000 in
/-- A map behind texts. -/
theorem round_smap (hC : IsBody C) {y0 : Value} {b lo : Nat} {s0 : ByteArray} (hv : IBox W Bv (.iface 133 (.pointer (some ⟨b, 0, none⟩)))) (hB : Lib.BuilderAt 135 5 lo b (.pointer (some ⟨b, 0, none⟩)) (Lib.strCells s0) W)
    (hr : IBox W Br .nilIface) (hBv : Bv < lo) (hBr : Br < lo) (hne : Bv ≠ Br) (hlo : lo ≤ W.heap.size)
    (hadd : ∀ w, Calls Tryz.prog 108 #[.nilIface, .iface 9 (.string s0), .iface 61 y0] w fun e w' => ∃ u, e = .returned u ∧ IsErr u ∧ Below w.heap.size w w')
    (hret : ∀ a u w', IsErr u → (∃ w0 v0, Below lo W w0 ∧ Below (w0.setCell ⟨Bv, 0, none⟩ v0).heap.size (w0.setCell ⟨Bv, 0, none⟩ v0) w') → Q .ret a ((w'.setCell ⟨Bv, 0, none⟩ u).setCell ⟨Br, 0, none⟩ u)) :
    C.wpIn (Fence.wide.inRound l) n Tryz.prog Q (addAct f Br Bv (.iface 61 y0)) W := by
  have hc := hv.cell
  have SB := Lib.hid (string_any lo b s0 W (Or.inr hB) hlo)
  have HV := Lib.hid hv; have HR := Lib.hid hr; have HT := Lib.hid hret; have HA := Lib.hid hadd; have HN := Lib.hid hne; have HBv := Lib.hid hBv; have HBr := Lib.hid hBr; have HL := Lib.hid hlo
  clear hv hr hret hBv hBr hlo hadd hne hB
  unfold addAct
  simp only [IsBody, Tryz.f64, bodyIn, Option.bind_some, Option.some.injEq] at hC
  subst hC
  gi_wp2
  refine ⟨trivial, fun h => absurd h (by decide), (CallsIn.inRound l (callsIn_wide.2 SB.out)).mono ?_⟩
  rintro e w0 ⟨rfl, hb0⟩
  have hv0 := HV.out.below hb0 HBv.out
  have hr0 := HR.out.below hb0 HBr.out
  have c0 := hv0.cell; have f0 := hv0.fr
  have V0 := Lib.hid (hv0.set (.iface 9 (.string s0)))
  have R0 := Lib.hid (hr0.kept (grown_setCell w0 Bv 0 (.iface 9 (.string s0))) (fun k hk => by cases hk; exact HN.out))
  have HB0 := Lib.hid hb0
  have cy : (w0.setCell ⟨Bv, 0, none⟩ (.iface 9 (.string s0))).cell? ⟨Bv, 0, none⟩ = some (.iface 9 (.string s0)) := V0.out.cell
  clear hv0 hr0 hb0 hc
  gi_wp2
  refine ⟨trivial, fun h => absurd h (by decide), (CallsIn.inRound l (callsIn_wide.2 (HA.out _))).mono ?_⟩
  rintro e w1 ⟨u, rfl, ⟨t1, y1, rfl, hta⟩, hb⟩
  have hv2 := V0.out.below hb V0.out.lt
  have hr2 := R0.out.below hb R0.out.lt
  have c2 := hv2.cell; have f2 := hv2.fr; have c3 := hr2.cell; have f3 := hr2.fr
  have HB := Lib.hid hb
  have V2 := Lib.hid (hv2.set (.iface t1 y1))
  have cx : (w1.setCell ⟨Bv, 0, none⟩ (.iface t1 y1)).cell? ⟨Bv, 0, none⟩ = some (.iface t1 y1) := V2.out.cell
  have hr3 := hr2.kept (grown_setCell w1 Bv 0 (.iface t1 y1)) (fun k hk => by cases hk; exact HN.out)
  have c4 := hr3.cell; have f4 := hr3.fr
  clear hv2 hr2 hr3 hb c0 f0 cy
  have HE := Lib.hid (show IsErr (.iface t1 y1) from ⟨_, _, rfl, hta⟩)
  gi_wp2
  exact HT.out _ _ _ HE.out ⟨_, _, HB0.out, HB.out⟩
end
end Go.Proofs.YtfgmegfgifeaiaaGreatDoor

namespace Go.Proofs.YtfgmegfgifeaiaaGreatDoor
open Go.RowKit Go.Shelf

theorem adds_apart {k r : Kd} (h : k.apart r = true) (hk : k ≠ .nil) (W : World) (G : Value → World → Prop) : Calls Tryz.prog 108 #[.nilIface, k.val, r.val] W (AddsTo G True W) := by
  refine (funcOpAdd_apart k r h W).mono ?_
  intro e w' hp
  cases k with
  | nil => exact absurd rfl hk
  | _ => obtain ⟨v, rfl, h1, h2⟩ := hp; exact ⟨v, rfl, h2, .inr ⟨trivial, h1⟩⟩
theorem Kd.form (k : Kd) : k.val = .nilIface ∨ ∃ t y, k.val = .iface t y := by
  cases k with
  | nil => exact .inl rfl
  | _ => exact .inr ⟨_, _, rfl⟩
theorem Kd.noError (k : Kd) (w : World) : (Instr.typeAssert k.val 20 65 true).run Tryz.prog w = .ok (.tuple #[.nilIface, .bool false]) w := by
  cases k with
  | nil => exact as_nil_error w
  | bool b => exact as_bool_error _ w
  | int n => exact as_int_error _ w
  | float X => exact as_float_error _ w
  | str s => exact as_string_error _ w
  | list a n c => exact as_anys_error _ w
  | map b => exact as_map_error _ w
theorem adds_nil {r : Kd} (h : Kd.nil.apart r = true) (W : World) : Calls Tryz.prog 108 #[.nilIface, .nilIface, r.val] W (AddsTo (fun u w' => u = r.val ∧ w' = W) False W) := by
  refine (funcOpAdd_apart .nil r h W).mono ?_
  rintro e w' ⟨rfl, rfl⟩
  exact ⟨r.val, rfl, Below.refl _ _, .inl ⟨r.form, r.noError, rfl, rfl⟩⟩
theorem adds_num {k r : Kd} {c B : Int} (hB : 0 ≤ B ∧ B ≤ 4503599627370496000) (hl : k.num B) (hr : r.is c) (hc : Fits53 c) (W : World) :
    Calls Tryz.prog 108 #[.nilIface, k.val, r.val] W (AddsTo (fun u w' => w' = W ∧ ∃ q : Kd, u = q.val ∧ q.num (B + 9007199254740992) ∧ ∀ a, k.is a → Fits53 a → Fits53 (a + c) → q.is (a + c)) False W) := by
  refine (funcOpAdd_num k r c B hB hl hr hc W).mono ?_
  rintro e w' ⟨rfl, q, rfl, h1, h2⟩
  exact ⟨q.val, rfl, Below.refl _ _, .inl ⟨q.form, q.noError, rfl, q, rfl, h1, h2⟩⟩

section
variable {C : Code} {l n Br Bv : Nat} {f : Value} {W : World} {Q : Exit → Act → World → Prop}

/-- Two that are not added to one another: an error. -/
theorem round_apart (hC : IsBody C) {k r : Kd} (h : k.apart r = true) (hk : k ≠ .nil) (hv : IBox W Bv k.val) (hr : IBox W Br .nilIface) (hne : Bv ≠ Br)
    (hret : ∀ a u w', IsErr u → Below W.heap.size W w' → Q .ret a ((w'.setCell ⟨Bv, 0, none⟩ u).setCell ⟨Br, 0, none⟩ u)) :
    C.wpIn (Fence.wide.inRound l) n Tryz.prog Q (addAct f Br Bv r.val) W := by
  have A := adds_apart h hk W (fun _ _ => False)
  have no : ∀ a u w', False → IBox (w'.setCell ⟨Bv, 0, none⟩ u) Bv u → Below W.heap.size W w' → Q .normal a (w'.setCell ⟨Bv, 0, none⟩ u) := fun _ _ _ h => h.elim
  cases k with
  | nil => exact absurd rfl hk
  | bool b =>
    cases r with
    | nil => cases h
    | bool b' => exact round_other hC (as_bool_string _) (as_bool_anys _) (as_bool_map _) hv (as_bool_pb _) hr hne A no (fun a u w' _ => hret a u w')
    | int n' => exact round_other hC (as_int_string _) (as_int_anys _) (as_int_map _) hv (as_bool_pb _) hr hne A no (fun a u w' _ => hret a u w')
    | float X' => exact round_other hC (as_float_string _) (as_float_anys _) (as_float_map _) hv (as_bool_pb _) hr hne A no (fun a u w' _ => hret a u w')
    | str s' => exact round_strx hC hv (as_bool_pb _) hr hne A no (fun a u w' _ => hret a u w')
    | list a' n' c' => exact round_arrx hC hv (as_bool_pb _) (as_bool_anys _) hr hne A no (fun a u w' _ => hret a u w')
    | map b' => exact round_mapx hC hv (as_bool_pb _) (as_bool_map _) hr hne A no (fun a u w' _ => hret a u w')
  | int n =>
    cases r with
    | nil => cases h
    | bool b' => exact round_other hC (as_bool_string _) (as_bool_anys _) (as_bool_map _) hv (as_int_pb _) hr hne A no (fun a u w' _ => hret a u w')
    | int n' => cases h
    | float X' => cases h
    | str s' => exact round_strx hC hv (as_int_pb _) hr hne A no (fun a u w' _ => hret a u w')
    | list a' n' c' => exact round_arrx hC hv (as_int_pb _) (as_int_anys _) hr hne A no (fun a u w' _ => hret a u w')
    | map b' => exact round_mapx hC hv (as_int_pb _) (as_int_map _) hr hne A no (fun a u w' _ => hret a u w')
  | float X =>
    cases r with
    | nil => cases h
    | bool b' => exact round_other hC (as_bool_string _) (as_bool_anys _) (as_bool_map _) hv (as_float_pb _) hr hne A no (fun a u w' _ => hret a u w')
    | int n' => cases h
    | float X' => cases h
    | str s' => exact round_strx hC hv (as_float_pb _) hr hne A no (fun a u w' _ => hret a u w')
    | list a' n' c' => exact round_arrx hC hv (as_float_pb _) (as_float_anys _) hr hne A no (fun a u w' _ => hret a u w')
    | map b' => exact round_mapx hC hv (as_float_pb _) (as_float_map _) hr hne A no (fun a u w' _ => hret a u w')
  | str s =>
    cases r with
    | nil => cases h
    | bool b' => exact round_other hC (as_bool_string _) (as_bool_anys _) (as_bool_map _) hv (as_string_pb _) hr hne A no (fun a u w' _ => hret a u w')
    | int n' => exact round_other hC (as_int_string _) (as_int_anys _) (as_int_map _) hv (as_string_pb _) hr hne A no (fun a u w' _ => hret a u w')
    | float X' => exact round_other hC (as_float_string _) (as_float_anys _) (as_float_map _) hv (as_string_pb _) hr hne A no (fun a u w' _ => hret a u w')
    | str s' => cases h
    | list a' n' c' => exact round_arrx hC hv (as_string_pb _) (as_string_anys _) hr hne A no (fun a u w' _ => hret a u w')
    | map b' => exact round_mapx hC hv (as_string_pb _) (as_string_map _) hr hne A no (fun a u w' _ => hret a u w')
  | list a n c =>
    cases r with
    | nil => cases h
    | bool b' => exact round_other hC (as_bool_string _) (as_bool_anys _) (as_bool_map _) hv (as_anys_pb _) hr hne A no (fun a u w' _ => hret a u w')
    | int n' => exact round_other hC (as_int_string _) (as_int_anys _) (as_int_map _) hv (as_anys_pb _) hr hne A no (fun a u w' _ => hret a u w')
    | float X' => exact round_other hC (as_float_string _) (as_float_anys _) (as_float_map _) hv (as_anys_pb _) hr hne A no (fun a u w' _ => hret a u w')
    | str s' => exact round_strx hC hv (as_anys_pb _) hr hne A no (fun a u w' _ => hret a u w')
    | list a' n' c' => cases h
    | map b' => exact round_mapx hC hv (as_anys_pb _) (as_anys_map _) hr hne A no (fun a u w' _ => hret a u w')
  | map b =>
    cases r with
    | nil => cases h
    | bool b' => exact round_other hC (as_bool_string _) (as_bool_anys _) (as_bool_map _) hv (as_map_pb _) hr hne A no (fun a u w' _ => hret a u w')
    | int n' => exact round_other hC (as_int_string _) (as_int_anys _) (as_int_map _) hv (as_map_pb _) hr hne A no (fun a u w' _ => hret a u w')
    | float X' => exact round_other hC (as_float_string _) (as_float_anys _) (as_float_map _) hv (as_map_pb _) hr hne A no (fun a u w' _ => hret a u w')
    | str s' => exact round_strx hC hv (as_map_pb _) hr hne A no (fun a u w' _ => hret a u w')
    | list a' n' c' => exact round_arrx hC hv (as_map_pb _) (as_map_anys _) hr hne A no (fun a u w' _ => hret a u w')
    | map b' => cases h

/-- Texts, and what is none. -/
theorem round_sapart (hC : IsBody C) {r : Kd} {b lo : Nat} {s0 : ByteArray} (h : (Kd.str s0).apart r = true) (hv : IBox W Bv (.iface 133 (.pointer (some ⟨b, 0, none⟩)))) (hB : Lib.BuilderAt 135 5 lo b (.pointer (some ⟨b, 0, none⟩)) (Lib.strCells s0) W)
    (hr : IBox W Br .nilIface) (hBv : Bv < lo) (hBr : Br < lo) (hne : Bv ≠ Br) (hlo : lo ≤ W.heap.size)
    (hret : ∀ a u w', IsErr u → (∃ w0 v0, Below lo W w0 ∧ Below (w0.setCell ⟨Bv, 0, none⟩ v0).heap.size (w0.setCell ⟨Bv, 0, none⟩ v0) w') → Q .ret a ((w'.setCell ⟨Bv, 0, none⟩ u).setCell ⟨Br, 0, none⟩ u)) :
    C.wpIn (Fence.wide.inRound l) n Tryz.prog Q (addAct f Br Bv r.val) W := by
  have A : ∀ w, Calls Tryz.prog 108 #[.nilIface, .iface 9 (.string s0), r.val] w fun e w' => ∃ u, e = .returned u ∧ IsErr u ∧ Below w.heap.size w w' := fun w => funcOpAdd_apart (.str s0) r h w
  cases r with
  | nil => cases h
  | str s => cases h
  | bool c => exact round_sother hC (as_bool_string _) (as_bool_anys _) (as_bool_map _) hv hB hr hBv hBr hne hlo A hret
  | int c => exact round_sother hC (as_int_string _) (as_int_anys _) (as_int_map _) hv hB hr hBv hBr hne hlo A hret
  | float c => exact round_sother hC (as_float_string _) (as_float_anys _) (as_float_map _) hv hB hr hBv hBr hne hlo A hret
  | list a n c => exact round_sarr hC hv hB hr hBv hBr hne hlo A hret
  | map b => exact round_smap hC hv hB hr hBv hBr hne hlo A hret

/-- What is known of the sum when one more has come. -/
def nextJ (o : Out) (j : J) : Out := match o with | .value b => plusJ b j | o => o

/-- Nothing below lo has turned but two blocks. -/
structure Step2 (lo Bv Br : Nat) (W W' : World) : Prop where
  os : W'.os = W.os
  tape : W'.tape = W.tape
  output : W'.output = W.output
  size : W.heap.size ≤ W'.heap.size
  block : ∀ b, b < lo → b ≠ Bv → b ≠ Br → W'.heap[b]? = W.heap[b]?

theorem ret_apart {lo : Nat} (hlo : lo ≤ W.heap.size) (hr : IBox W Br .nilIface) (hne : Bv ≠ Br)
    (hret : ∀ a u W', IsErr u → IBox W' Br u → Step2 lo Bv Br W W' → Q .ret a W') :
    ∀ a u w', IsErr u → Below W.heap.size W w' → Q .ret a ((w'.setCell ⟨Bv, 0, none⟩ u).setCell ⟨Br, 0, none⟩ u) := by
  intro a u w' hu hb
  have h1 := (hr.below hb hr.lt).kept (grown_setCell w' Bv 0 u) (fun k hk => by cases hk; exact hne)
  refine hret a u _ hu (h1.set u) ⟨hb.os, hb.tape, hb.output, by simpa [World.setCell] using hb.size, fun b h1 h2 h3 => ?_⟩
  exact ((Below.heap_setCell _ _ _ _ h3).trans (Below.heap_setCell _ _ _ _ h2)).trans (hb.block b (Nat.lt_of_lt_of_le h1 hlo))
theorem ret_sapart {lo : Nat} (hr : IBox W Br .nilIface) (hne : Bv ≠ Br) (hBr : Br < lo) (hlo : lo ≤ W.heap.size)
    (hret : ∀ a u W', IsErr u → IBox W' Br u → Step2 lo Bv Br W W' → Q .ret a W') :
    ∀ a u w', IsErr u → (∃ w0 v0, Below lo W w0 ∧ Below (w0.setCell ⟨Bv, 0, none⟩ v0).heap.size (w0.setCell ⟨Bv, 0, none⟩ v0) w') → Q .ret a ((w'.setCell ⟨Bv, 0, none⟩ u).setCell ⟨Br, 0, none⟩ u) := by
  rintro a u w' hu ⟨w0, v0, hb0, hb⟩
  have hsz : (w0.setCell ⟨Bv, 0, none⟩ v0).heap.size = w0.heap.size := by simp [World.setCell]
  have hlt : Br < w0.heap.size := Nat.lt_of_lt_of_le hr.lt hb0.size
  have h0 := (hr.below hb0 hBr).kept (grown_setCell w0 Bv 0 v0) (fun k hk => by cases hk; exact hne)
  have h1 := (h0.below hb (by rw [hsz]; exact hlt)).kept (grown_setCell w' Bv 0 u) (fun k hk => by cases hk; exact hne)
  refine hret a u _ hu (h1.set u) ⟨hb.os.trans hb0.os, hb.tape.trans hb0.tape, hb.output.trans hb0.output, ?_, fun b h1 h2 h3 => ?_⟩
  · have := hb.size; rw [hsz] at this
    simpa [World.setCell] using Nat.le_trans hb0.size this
  · refine ((Below.heap_setCell _ _ _ _ h3).trans (Below.heap_setCell _ _ _ _ h2)).trans ?_
    refine (hb.block b ?_).trans ((Below.heap_setCell _ _ _ _ h2).trans (hb0.block b h1))
    rw [hsz]
    exact Nat.lt_of_lt_of_le h1 (Nat.le_trans hlo hb0.size)
end
end Go.Proofs.YtfgmegfgifeaiaaGreatDoor

namespace Go.Proofs.YtfgmegfgifeaiaaGreatDoor
open Go.RowKit Go.Shelf

theorem jr_one {W : World} {S : Nat → Prop} {j : J} {x : Value} (h : JR W S j x) : x.oneCell' = true := by
  rcases h.form with rfl | ⟨t, u, rfl⟩ <;> rfl

/-- An array's elements as a list. -/
theorem JR.list {W : World} {S : Nat → Prop} {l : List J} {v : Value} (h : JR W S (.arr l) v) :
    ∃ a cap, ∃ xs : List Value, v = .iface 58 (.slice a xs.length cap) ∧ xs.length = l.length ∧ (∀ i (_ : i < xs.length), ∃ b o, a = some ⟨b, o, none⟩ ∧ S b ∧ W.cell? ⟨b, o + i, none⟩ = some xs[i]) ∧ (∀ i (_ : i < l.length) (_ : i < xs.length), JR W S l[i] xs[i]) ∧ ∀ u ∈ xs, u.oneCell' = true := by
  obtain ⟨a, cap, rfl, he⟩ := h.arr
  have hx : ∀ i : Fin l.length, ∃ x, (∃ b o, a = some ⟨b, o, none⟩ ∧ S b ∧ W.cell? ⟨b, o + i.1, none⟩ = some x) ∧ JR W S l[i.1] x := fun i => by
    obtain ⟨b, o, x, e1, e2, e3, e4⟩ := he i.1 i.2
    exact ⟨x, ⟨b, o, e1, e2, e3⟩, e4⟩
  have hlen : (List.ofFn fun i => Classical.choose (hx i)).length = l.length := by simp
  refine ⟨a, cap, List.ofFn fun i => Classical.choose (hx i), by rw [hlen], hlen, fun i hi => ?_, fun i hi hx' => ?_, fun u hu => ?_⟩
  · have := (Classical.choose_spec (hx ⟨i, by rwa [hlen] at hi⟩)).1
    simpa using this
  · have := (Classical.choose_spec (hx ⟨i, hi⟩)).2
    simpa using this
  · obtain ⟨i, rfl⟩ := List.mem_ofFn.1 hu
    exact jr_one (Classical.choose_spec (hx i)).2

theorem JR.obj' {w : World} {S : Nat → Prop} {m : List (ByteArray × J)} {v : Value} (h : JR w S (.obj m) v) :
    ∃ b mv, v = .iface 61 (.map (some b)) ∧ S b ∧ MapAt w b mv ∧ (mv.map (·.1)).Perm (m.map (·.1)) ∧ ∀ p ∈ m, ∃ x, (p.1, x) ∈ mv ∧ JR w S p.2 x := by
  obtain ⟨b, mv, e1, e2, e3, e4, e5⟩ := h.obj
  refine ⟨b, mv, e1, e2, e3, e4, fun p hp => ?_⟩
  obtain ⟨i, hi, rfl⟩ := List.getElem_of_mem hp
  exact e5 i hi

/-- Keys that stand in a map as in an object are as short. -/
theorem keys_short {m : List (ByteArray × J)} {mv : List (ByteArray × Value)} (hj : JOK (.obj m)) (hp : (mv.map (·.1)).Perm (m.map (·.1))) : (∀ p ∈ mv, p.1.size ≤ maxLen) ∧ mv.length ≤ 400 := by
  refine ⟨fun p hp' => ?_, ?_⟩
  · have h1 : p.1 ∈ m.map (·.1) := hp.mem_iff.1 (List.mem_map.2 ⟨p, hp', rfl⟩)
    obtain ⟨q, hq, e⟩ := List.mem_map.1 h1
    have := (hj.obj_mem.2 q hq).1
    rw [e] at this
    unfold maxLen
    omega
  · have h1 := hp.length_eq
    rw [List.length_map, List.length_map] at h1
    have h2 : m.length ≤ 400 := by rw [JOK] at hj; exact hj.2.2.2.1
    omega

/-- A map laid into another reads as the sum of the two objects. -/
theorem laid_reads {W W' : World} {S : Nat → Prop} {c d : List (ByteArray × J)} {mv ms m : List (ByteArray × Value)} (hs : Same S W W') (hl : Laid mv ms m) (hn : (mv.map (·.1)).Nodup) (rc : Rises c) (rd : Rises d)
    (pc : (ms.map (·.1)).Perm (c.map (·.1))) (pd : (m.map (·.1)).Perm (d.map (·.1))) (hc : ∀ p ∈ c, ∃ x, (p.1, x) ∈ ms ∧ JR W S p.2 x) (hd : ∀ p ∈ d, ∃ x, (p.1, x) ∈ m ∧ JR W S p.2 x) :
    (mv.map (·.1)).Perm ((mergeJ c d).map (·.1)) ∧ ∀ p ∈ mergeJ c d, ∃ x, (p.1, x) ∈ mv ∧ JR W' S p.2 x := by
  refine ⟨(List.perm_ext_iff_of_nodup hn (mergeJ_rises d rc).nodup).2 fun s => ?_, fun p hp => ?_⟩
  · constructor
    · intro h
      obtain ⟨p, hp, rfl⟩ := List.mem_map.1 h
      rcases (hl p).1 hp with h1 | ⟨h1, h2⟩
      · obtain ⟨q, hq, e⟩ := List.mem_map.1 (pd.mem_iff.1 (List.mem_map.2 ⟨p, h1, rfl⟩))
        exact List.mem_map.2 ⟨q, (mergeJ_mem d c rd.nodup).2 (Or.inl hq), e⟩
      · obtain ⟨q, hq, e⟩ := List.mem_map.1 (pc.mem_iff.1 (List.mem_map.2 ⟨p, h1, rfl⟩))
        refine List.mem_map.2 ⟨q, (mergeJ_mem d c rd.nodup).2 (Or.inr ⟨hq, fun h3 => h2 (pd.mem_iff.2 ?_)⟩), e⟩
        rw [← e]; exact h3
    · intro h
      obtain ⟨q, hq, rfl⟩ := List.mem_map.1 h
      rcases (mergeJ_mem d c rd.nodup).1 hq with h1 | ⟨h1, h2⟩
      · obtain ⟨x, hx, _⟩ := hd q h1
        exact List.mem_map.2 ⟨_, (hl _).2 (Or.inl hx), rfl⟩
      · obtain ⟨x, hx, _⟩ := hc q h1
        exact List.mem_map.2 ⟨_, (hl _).2 (Or.inr ⟨hx, fun h3 => h2 (pd.mem_iff.1 h3)⟩), rfl⟩
  · rcases (mergeJ_mem d c rd.nodup).1 hp with h1 | ⟨h1, h2⟩
    · obtain ⟨x, hx, hj⟩ := hd p h1
      exact ⟨x, (hl _).2 (Or.inl hx), hj.go hs (fun _ h => h)⟩
    · obtain ⟨x, hx, hj⟩ := hc p h1
      exact ⟨x, (hl _).2 (Or.inr ⟨hx, fun h3 => h2 (pd.mem_iff.1 h3)⟩), hj.go hs (fun _ h => h)⟩
theorem MapAt.nodup {w : World} {b : Nat} {m : List (ByteArray × Value)} (h : MapAt w b m) : (m.map (·.1)).Nodup := by
  obtain ⟨_, _, _, _, _, h⟩ := h; exact h

section
variable {C : Code} {l n Br Bv : Nat} {f : Value} {W : World} {Q : Exit → Act → World → Prop}

/-- Two numbers. -/
theorem round_num (hC : IsBody C) {k r : Kd} {G : Value → World → Prop} {E : Prop} (hk : ∃ B, k.num B) (hrr : ∃ B, r.num B) (hv : IBox W Bv k.val) (hr : IBox W Br .nilIface) (hne : Bv ≠ Br)
    (A : Calls Tryz.prog 108 #[.nilIface, k.val, r.val] W (AddsTo G E W))
    (hq : ∀ a u w', G u w' → IBox (w'.setCell ⟨Bv, 0, none⟩ u) Bv u → Below W.heap.size W w' → Q .normal a (w'.setCell ⟨Bv, 0, none⟩ u))
    (hret : ∀ a u w', E → IsErr u → Below W.heap.size W w' → Q .ret a ((w'.setCell ⟨Bv, 0, none⟩ u).setCell ⟨Br, 0, none⟩ u)) :
    C.wpIn (Fence.wide.inRound l) n Tryz.prog Q (addAct f Br Bv r.val) W := by
  obtain ⟨B, hk⟩ := hk
  obtain ⟨B', hrr⟩ := hrr
  cases k with
  | int a =>
    cases r with
    | int c => exact round_other hC (as_int_string _) (as_int_anys _) (as_int_map _) hv (as_int_pb _) hr hne A hq hret
    | float c => exact round_other hC (as_float_string _) (as_float_anys _) (as_float_map _) hv (as_int_pb _) hr hne A hq hret
    | _ => exact hrr.elim
  | float a =>
    cases r with
    | int c => exact round_other hC (as_int_string _) (as_int_anys _) (as_int_map _) hv (as_float_pb _) hr hne A hq hret
    | float c => exact round_other hC (as_float_string _) (as_float_anys _) (as_float_map _) hv (as_float_pb _) hr hne A hq hret
    | _ => exact hrr.elim
  | _ => exact hk.elim

theorem Step.same {lo : Nat} {S : Nat → Prop} {W' : World} (h : Step lo Bv W W') (hS : ∀ b, S b → b < lo ∧ b ≠ Bv) : Same S W W' := fun b hb => h.block b (hS b hb).1 (hS b hb).2

set_option maxHeartbeats 1000000 in
/-- One round, whatever has come and whatever comes. -/
theorem add_round (hC : IsBody C) {S : Nat → Prop} {lo i : Nat} {o : Out} {j : J} {x v : Value} (hlo : lo ≤ W.heap.size) (hBv : Bv < lo) (hBr : Br < lo) (hne : Bv ≠ Br) (hv : IBox W Bv v) (hr : IBox W Br .nilIface) (hacc : Acc lo S i o v W)
    (hS : ∀ b, S b → b < lo ∧ b ≠ Bv) (hj : JOK j) (ht : j.text.size ≤ 2000) (hx : JR W S j x) (hi : i ≤ 400) (hso : ∀ a, o = .value a → JOK a)
    (hq : ∀ a v' W', IBox W' Bv v' → Acc lo S (i + 1) (nextJ o j) v' W' → Step lo Bv W W' → Q .normal a W')
    (hret : ∀ a u W', (nextJ o j = .raises ∨ nextJ o j = .silent) → IsErr u → IBox W' Br u → Step2 lo Bv Br W W' → Q .ret a W') :
    C.wpIn (Fence.wide.inRound l) n Tryz.prog Q (addAct f Br Bv x) W := by
  have hSW : ∀ b, S b → b < W.heap.size := fun b hb => Nat.lt_of_lt_of_le (hS b hb).1 hlo
  have same : ∀ {W'}, Step lo Bv W W' → Same S W W' := fun h => h.same hS
  obtain ⟨r, rfl, hel⟩ := elem_kd hj hx
  have bh := bnd_le (i := i) (by omega)
  have b0 := bnd_pos i
  -- a silent round and an error
  have err : ∀ k : Kd, k.apart r = true → k ≠ .nil → v = k.val → (nextJ o j = .raises ∨ nextJ o j = .silent) → C.wpIn (Fence.wide.inRound l) n Tryz.prog Q (addAct f Br Bv r.val) W := by
    rintro k h1 h2 rfl h3
    exact round_apart hC h1 h2 hv hr hne (ret_apart hlo hr hne (fun a u W' => hret a u W' h3))
  have stay : r = .nil → nextJ o j = o → C.wpIn (Fence.wide.inRound l) n Tryz.prog Q (addAct f Br Bv r.val) W := by
    rintro rfl h1
    exact round_nil hC (fun a => hq a v W hv (by rw [h1]; exact hacc.next) (Step.refl _ _ _))
  have nums : ∀ (k : Kd) (c : Int), k.num (Bnd i) → r.is c → (∃ B, r.num B) → Fits53 c → v = k.val →
      (∀ q : Kd, q.num (Bnd i + 9007199254740992) → (∀ a, k.is a → Fits53 a → Fits53 (a + c) → q.is (a + c)) → Acc lo S (i + 1) (nextJ o j) q.val W) → C.wpIn (Fence.wide.inRound l) n Tryz.prog Q (addAct f Br Bv r.val) W := by
    rintro k c h1 h2 h3 h4 rfl h5
    refine round_num hC ⟨_, h1⟩ h3 hv hr hne (adds_num ⟨b0, bh⟩ h1 h2 h4 W) ?_ ?_
    · rintro a u w' ⟨rfl, q, rfl, h6, h7⟩ hbx hb
      exact hq a _ _ hbx ((h5 q h6 h7).kept (grown_setCell w' Bv 0 q.val) (fun k hk => by cases hk; exact ⟨hBv, fun h => (hS _ h).2 rfl⟩) hSW) (Step.of (Below.refl _ _) _)
    · intro a u w' h
      exact h.elim
  have fit : ∀ c, j = .num c → Fits53 c := fun c e => by subst e; exact hj.half_ok
  cases o with
  | raises => exact hacc.elim
  | silent =>
    obtain ⟨k, rfl, hk⟩ := hacc
    have hkn : k ≠ .nil := fun e => by rw [e] at hk; exact hk.elim
    cases j with
    | null => exact stay hel rfl
    | bool c => obtain rfl : r = .bool c := hel; exact err k (by cases k <;> first | rfl | exact hk.elim) hkn rfl (.inr rfl)
    | num c =>
      refine nums k c hk hel.1 hel.2 (fit c rfl) rfl (fun q h1 _ => ⟨q, rfl, by rw [bnd_succ]; exact h1⟩)
    | str c => obtain rfl : r = .str c := hel; exact err k (by cases k <;> first | rfl | exact hk.elim) hkn rfl (.inr rfl)
    | arr c => obtain ⟨a1, cap1, rfl⟩ := hel; exact err k (by cases k <;> first | rfl | exact hk.elim) hkn rfl (.inr rfl)
    | obj c => obtain ⟨b1, rfl⟩ := hel; exact err k (by cases k <;> first | rfl | exact hk.elim) hkn rfl (.inr rfl)
  | value a =>
    have ha := hso a rfl
    have num_apart : ∀ (k : Kd) (c : Int), r.is c → (∀ n, k.apart (.int n) = true) → (∀ X, k.apart (.float X) = true) → k.apart r = true := fun k c h1 h2 h3 => by
      cases r with
      | int n => exact h2 n
      | float X => exact h3 X
      | _ => exact h1.elim
    cases a with
    | null =>
      obtain rfl : v = .nilIface := hacc
      cases j with
      | null => exact stay hel rfl
      | bool c =>
        obtain rfl : r = .bool c := hel
        refine round_other0 hC (as_bool_string _) (as_bool_anys _) (as_bool_map _) hv hr hne (adds_nil (r := .bool c) rfl W) ?_ (fun a u w' h => h.elim)
        rintro a u w' ⟨rfl, rfl⟩ hbx _
        exact hq a _ _ hbx rfl (Step.of (Below.refl _ _) _)
      | num c =>
        have hf := fit c rfl
        obtain ⟨h1, B, h2⟩ := hel
        have hb : r.num (Bnd (i + 1)) := by
          have := bnd_succ i
          cases r with
          | int n =>
            have e : c = 2 * n := h1
            have := hf.1; have := hf.2.1
            exact ⟨by omega, by omega⟩
          | float X => exact h2
          | _ => exact h1.elim
        have go : ∀ a u w', (u = r.val ∧ w' = W) → IBox (w'.setCell ⟨Bv, 0, none⟩ u) Bv u → Below W.heap.size W w' → Q .normal a (w'.setCell ⟨Bv, 0, none⟩ u) := by
          rintro a u w' ⟨rfl, rfl⟩ hbx _
          exact hq a _ _ hbx ⟨r, rfl, hb, h1, hf⟩ (Step.of (Below.refl _ _) _)
        cases r with
        | int n => exact round_other0 hC (as_int_string _) (as_int_anys _) (as_int_map _) hv hr hne (adds_nil (r := .int n) rfl W) go (fun a u w' h => h.elim)
        | float X => exact round_other0 hC (as_float_string _) (as_float_anys _) (as_float_map _) hv hr hne (adds_nil (r := .float X) rfl W) go (fun a u w' h => h.elim)
        | _ => exact h1.elim
      | str c =>
        obtain rfl : r = .str c := hel
        refine round_str0 hC hv hBv hlo (by simp only [J.text] at ht; omega) (fun a b W' h1 h2 h3 => hq a _ W' h2 ⟨b, rfl, h1⟩ h3)
      | arr c =>
        obtain ⟨a1, cap1, xs, e, hl, hs, hJ, h1⟩ := hx.list
        rw [e]
        have h400 : xs.length ≤ 400 := by rw [hl, JOK] at *; exact hj.2.2.1
        refine round_arr0 hC hv hBv hlo h400 (fun i hi => by obtain ⟨b, o, e1, e2, e3⟩ := hs i hi; exact ⟨b, o, e1, hSW b e2, e3⟩) h1 (fun a g W' h1 h2 h3 => hq a _ W' h2 ⟨some ⟨g, 0, none⟩, xs.length, xs, by rw [hl], ?_, hl, fun i hi hx' => (hJ i hi hx').go (same h3) (fun _ h => h)⟩ h3)
        rw [← hl]; exact h1
      | obj c =>
        obtain ⟨b, mv, e, hSb, hM, hp, hJ⟩ := hx.obj'
        rw [e]
        refine round_map0 hC hv hM hBv hlo (fun a g W' h1 h2 h3 h4 => hq a _ W' h3 ⟨g, mv, rfl, h1, h2, hp, fun p hp => ?_⟩ h4)
        obtain ⟨x, e1, e2⟩ := hJ p hp
        exact ⟨x, e1, e2.go (same h4) (fun _ h => h)⟩
    | bool c0 =>
      have hv' : v = (Kd.bool c0).val := hacc
      cases j with
      | null => exact stay hel rfl
      | bool c => obtain rfl : r = .bool c := hel; exact err (.bool c0) rfl (fun e => by cases e) hv' (.inl rfl)
      | num c => exact err (.bool c0) (num_apart _ c hel.1 (fun _ => rfl) (fun _ => rfl)) (fun e => by cases e) hv' (.inl rfl)
      | str c => obtain rfl : r = .str c := hel; exact err (.bool c0) rfl (fun e => by cases e) hv' (.inl rfl)
      | arr c => obtain ⟨a1, cap1, rfl⟩ := hel; exact err (.bool c0) rfl (fun e => by cases e) hv' (.inl rfl)
      | obj c => obtain ⟨b1, rfl⟩ := hel; exact err (.bool c0) rfl (fun e => by cases e) hv' (.inl rfl)
    | num c0 =>
      obtain ⟨k, rfl, hk, hk2, hk3⟩ := hacc
      have hkn : k ≠ .nil := fun e => by rw [e] at hk; exact hk.elim
      cases j with
      | null => exact stay hel rfl
      | bool c => obtain rfl : r = .bool c := hel; exact err k (by cases k <;> first | rfl | exact hk.elim) hkn rfl (.inl rfl)
      | num c => exact nums k c hk hel.1 hel.2 (fit c rfl) rfl (fun q h6 h7 => acc_num h6 (h7 c0 hk2 hk3))
      | str c => obtain rfl : r = .str c := hel; exact err k (by cases k <;> first | rfl | exact hk.elim) hkn rfl (.inl rfl)
      | arr c => obtain ⟨a1, cap1, rfl⟩ := hel; exact err k (by cases k <;> first | rfl | exact hk.elim) hkn rfl (.inl rfl)
      | obj c => obtain ⟨b1, rfl⟩ := hel; exact err k (by cases k <;> first | rfl | exact hk.elim) hkn rfl (.inl rfl)
    | str s0 =>
      obtain ⟨b, rfl, hB⟩ := hacc
      have serr : (Kd.str s0).apart r = true → nextJ (.value (.str s0)) j = .raises → C.wpIn (Fence.wide.inRound l) n Tryz.prog Q (addAct f Br Bv r.val) W := fun h1 h2 =>
        round_sapart hC h1 hv hB hr hBv hBr hne hlo (ret_sapart hr hne hBr hlo (fun a u W' => hret a u W' (.inl h2)))
      have hs0 := ha.text_le
      simp only [J.text] at hs0
      cases j with
      | null => exact stay hel rfl
      | bool c => obtain rfl : r = .bool c := hel; exact serr rfl rfl
      | num c => exact serr (num_apart _ c hel.1 (fun _ => rfl) (fun _ => rfl)) rfl
      | str c =>
        obtain rfl : r = .str c := hel
        exact round_str1 hC hv hB hBv hlo (by simp only [J.text] at ht; omega) hs0 (fun a W' h1 h2 h3 => hq a _ W' h2 ⟨b, rfl, h1⟩ h3)
      | arr c => obtain ⟨a1, cap1, rfl⟩ := hel; exact serr rfl rfl
      | obj c => obtain ⟨b1, rfl⟩ := hel; exact serr rfl rfl
    | arr l0 =>
      obtain ⟨a0, cap0, ys, rfl, hrow, hyl, hyJ⟩ := hacc
      cases j with
      | null => exact stay hel rfl
      | bool c => obtain rfl : r = .bool c := hel; exact err (.list a0 l0.length cap0) rfl (fun e => by cases e) rfl (.inl rfl)
      | num c => exact err (.list a0 l0.length cap0) (num_apart _ c hel.1 (fun _ => rfl) (fun _ => rfl)) (fun e => by cases e) rfl (.inl rfl)
      | str c => obtain rfl : r = .str c := hel; exact err (.list a0 l0.length cap0) rfl (fun e => by cases e) rfl (.inl rfl)
      | arr c =>
        obtain ⟨a1, cap1, xs, e, hl, hs, hJ, h1⟩ := hx.list
        rw [e]
        have h400 : xs.length ≤ 400 := by rw [hl]; rw [JOK] at hj; exact hj.2.2.1
        have h4 : ys.length ≤ 400 := by rw [hyl]; rw [JOK] at ha; exact ha.2.2.1
        rw [← hyl] at hrow hv
        refine round_arr1 hC hv hrow hBv hlo h400 (by omega) (fun i hi => by obtain ⟨b, o, e1, e2, e3⟩ := hs i hi; exact ⟨b, o, e1, e3⟩) h1 (fun a a2 c2 W' h1 h2 h3 => ?_)
        have e1 : ys.length + xs.length = (l0 ++ c).length := by simp [hyl, hl]
        rw [e1] at h1 h2
        have e2 : (ys ++ xs).length = (l0 ++ c).length := by simp [hyl, hl]
        refine hq a _ W' h2 ⟨a2, c2, ys ++ xs, rfl, by rw [e2]; exact h1, by simp [hyl, hl], fun i hi hx' => ?_⟩ h3
        rcases Nat.lt_or_ge i l0.length with h5 | h5
        · rw [List.getElem_append_left h5, List.getElem_append_left (by omega)]
          exact (hyJ i h5 (by omega)).go (same h3) (fun _ h => h)
        · have h6 : i - l0.length < c.length := by rw [List.length_append] at hi; omega
          rw [List.getElem_append_right h5, List.getElem_append_right (by omega)]
          have := (hJ (i - l0.length) h6 (by omega)).go (same h3) (fun _ h => h)
          simpa only [hyl] using this
      | obj c => obtain ⟨b1, rfl⟩ := hel; exact err (.list a0 l0.length cap0) rfl (fun e => by cases e) rfl (.inl rfl)
    | obj m0 =>
      obtain ⟨g, ms, rfl, hg, hMg, hpg, hJg⟩ := hacc
      cases j with
      | null => exact stay hel rfl
      | bool c => obtain rfl : r = .bool c := hel; exact err (.map (some g)) rfl (fun e => by cases e) rfl (.inl rfl)
      | num c => exact err (.map (some g)) (num_apart _ c hel.1 (fun _ => rfl) (fun _ => rfl)) (fun e => by cases e) rfl (.inl rfl)
      | str c => obtain rfl : r = .str c := hel; exact err (.map (some g)) rfl (fun e => by cases e) rfl (.inl rfl)
      | arr c => obtain ⟨a1, cap1, rfl⟩ := hel; exact err (.map (some g)) rfl (fun e => by cases e) rfl (.inl rfl)
      | obj c =>
        obtain ⟨b, mv, e, hSb, hM, hp, hJ⟩ := hx.obj'
        rw [e]
        have k1 := keys_short hj hp
        have k2 := keys_short ha hpg
        refine round_map1 hC hv hMg hM (fun e => by have := (hS b hSb).1; omega) hg hBv hlo (by omega) (by omega) k1.1 k2.1 (fun a mv' W' h1 h2 h3 h4 => ?_)
        have hh := laid_reads (same h4) h2 h1.nodup ha.obj_mem.1 hj.obj_mem.1 hpg hp hJg hJ
        exact hq a _ W' h3 ⟨g, mv', rfl, hg, h1, hh.1, hh.2⟩ h4
end
end Go.Proofs.YtfgmegfgifeaiaaGreatDoor
