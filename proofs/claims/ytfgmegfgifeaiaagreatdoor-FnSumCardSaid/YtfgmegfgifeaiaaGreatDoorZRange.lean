/- A part of the proof. -/
import Derived.Test.YtfgmegfgifeaiaaGreatDoorM20
import Derived.RangeFuncNested
import Derived.RangeFuncBound
import Derived.RangeFuncCalls
import Derived.RangeFuncLeaves
import Derived.Shelf.Abstract
import Derived.Shelf.RegionOpen
import Derived.OwnWalkIn
import Derived.TacticsInMore
import Derived.LoopNIn
import Derived.LoopIn
namespace Go.Proofs.YtfgmegfgifeaiaaGreatDoor
open Go.RowKit Go.Shelf

/-- slices.Values(s): the slice is boxed; the function captures the box. -/
theorem sValues_any (a : Option Addr) (n cap : Nat) (w : World) : Calls Tryz.prog 65 #[.slice a n cap] w fun e w' => e = .returned (.func (.func 109) #[] #[.pointer (some ⟨w.heap.size, 0, none⟩)]) ∧ w' = w.alloc (.cells #[.slice a n cap] 58) := by
  go_enter Tryz.func65, Tryz.ntmps65
  go_wp2_with fail
  go_ret
  exact ⟨rfl, rfl⟩

set_option maxRecDepth 100000 in
set_option maxHeartbeats 1000000 in
/-- The function that slices.Values gives, over rounds that know their number. -/
theorem sValuesIt_in (F : Fence) (n : Nat) (hF : F.fn 109) (hro : F.round = none) (hn : 1 ≤ n) (l Bs : Nat) (a : Option Addr) (cap : Nat) (vs : List Value) (J : Nat → World → Prop) (Jx : World → Prop)
    (h0 : ∀ W, J 0 W → W.cell? ⟨Bs, 0, none⟩ = some (.slice a vs.length cap)) (hlen : vs.length ≤ 1000000)
    (hel : ∀ i (_ : i < vs.length) W, J i W → ∃ b o, a = some ⟨b, o, none⟩ ∧ W.cell? ⟨b, o + i, none⟩ = some vs[i])
    (hY : ∀ i (_ : i < vs.length) W, J i W → YieldAt F (n - 1) Tryz.prog l #[vs[i]] W fun e W' => (e = .returned (.bool true) ∧ J (i + 1) W') ∨ (e = .returned (.bool false) ∧ Jx W'))
    (W : World) (hJ : J 0 W) : CallsIn F n Tryz.prog 109 #[.func (.yield l) #[] #[], .pointer (some ⟨Bs, 0, none⟩)] W fun e W' => (∃ v, e = .returned v) ∧ (J vs.length W' ∨ Jx W') := by
  have hBs := h0 W hJ
  have HEL := Lib.hid hel; have HY := Lib.hid hY
  clear h0 hel hY
  refine callsIn_of_wp Tryz.func109 rfl hF ?_ hro
  simp only [Tryz.ntmps109, List.size_toArray, List.length_cons, List.length_nil, Nat.reduceAdd, Nat.reduceSub, Array.replicate_succ, Array.replicate_zero, List.push_toArray, List.append_toArray, List.nil_append, List.cons_append]
  gi_wp2
  gi_loopw [7] (fun i wr => ∃ k : Nat, k ≤ vs.length ∧ i = .int .i64 k ∧ J k wr) (fun i _ => vs.length - (intOf i).toNat)
  case atStart => exact ⟨0, Nat.zero_le _, rfl, hJ⟩
  case round =>
    obtain ⟨k, hk, rfl, hJs⟩ := hrel
    by_cases hlt : k < vs.length
    · obtain ⟨b, o, rfl, hc⟩ := HEL.out k hlt wr hJs
      obtain ⟨fn, tmps, assign, body, hy, hR⟩ := HY.out k hlt wr hJs
      generalize vs[k] = v at hc hy
      gi_wp2
      refine hR.mono ?_
      rintro e W3 (⟨rfl, hJ3⟩ | ⟨rfl, hJx3⟩)
      · gi_wp2
        go_roundw
        case rel => exact ⟨k + 1, by omega, by simp, hJ3⟩
        case measure => simp [intOf]; omega
      · gi_wp2
        refine bodyPost_ret (results_none rfl _ _ _) rfl ?_
        exact ⟨⟨_, rfl⟩, .inr hJx3⟩
    · obtain rfl : k = vs.length := by omega
      gi_wp2
      go_end0
      exact ⟨⟨_, rfl⟩, .inl hJs⟩

/-- The loop's two blocks lie as they lay. -/
def Keep2 (D : Nat) (W W' : World) : Prop := W'.heap[D]? = W.heap[D]? ∧ W'.heap[D + 1]? = W.heap[D + 1]?

/-- How a round's body may be left. -/
def roundEnd (D : Nat) (I1 : World → Prop) (Ix : Code → World → Prop) (W : World) : Exit → Act → World → Prop
  | .normal, _, W' => Keep2 D W W' ∧ I1 W'
  | .ret, _, W' => Keep2 D W W' ∧ Ix .ret W'
  | .exit id, _, W' => Keep2 D W W' ∧ Ix (.exit id) W'
  | .goto t, _, W' => Keep2 D W W' ∧ Ix (.goto t) W'
  | .panic _, _, _ => False
  | .outgrown, _, _ => False

/-- A range over slices.Values whose body may write all but the loop's own two blocks. -/
theorem wpIn_range_values {F : Fence} {n : Nat} {g : Operand} {ps : Array Tmp} {assign body : Code} {Q : Exit → Act → World → Prop} {act : Act} {w : World} (hro : F.round = none) (h1 : 2 ≤ n) (hF : F.fn 109) (Bs : Nat)
    (hg : act.eval g = .func (.func 109) #[] #[.pointer (some ⟨Bs, 0, none⟩)]) (hps : ps.size = 1) (a : Option Addr) (cap : Nat) (vs : List Value) (hlen : vs.length ≤ 1000000)
    (I : Nat → World → Prop) (Ix : Code → World → Prop)
    (hI : ∀ i W o, I i W → w.heap.size + 1 < W.heap.size → I i (W.putObj (w.heap.size + 1) o)) (hIx : ∀ c W o, Ix c W → w.heap.size + 1 < W.heap.size → Ix c (W.putObj (w.heap.size + 1) o))
    (hbox : ∀ W, I 0 W → W.cell? ⟨Bs, 0, none⟩ = some (.slice a vs.length cap))
    (hel : ∀ i (_ : i < vs.length) W, I i W → ∃ b o, a = some ⟨b, o, none⟩ ∧ W.cell? ⟨b, o + i, none⟩ = some vs[i])
    (h0 : ∀ r, I 0 ((w.alloc (.deferred (some []))).alloc (.loop r))) (a₁ : Value → Act)
    (hassign : ∀ (l : Nat) (x : Value) (W : World) (K : Act → World → Prop), K (a₁ x) W →
      assign.wpIn (F.inRound l) (n - 1 - 1) Tryz.prog (Exit.then K (fun _ _ _ => False)) { tmps := (ps.zip #[x]).foldl (fun t (p, v) => t.setIfInBounds p v) act.tmps, defers := [] } W)
    (hbody : ∀ (l i : Nat) (_ : i < vs.length) (W : World), I i W → body.wpIn (F.inRound l) (n - 1 - 1) Tryz.prog (roundEnd w.heap.size (I (i + 1)) Ix W) (a₁ vs[i]) W)
    (hdone : ∀ (W : World), I vs.length W → W.heap[w.heap.size]? = some (.deferred (some [])) → Q .normal { act with defers := { target := .collected w.heap.size, args := #[] } :: act.defers } W)
    (hstop : ∀ (c : Code) (W : World), Ix c W → W.heap[w.heap.size]? = some (.deferred (some [])) → c.wpIn F n Tryz.prog Q { act with defers := { target := .collected w.heap.size, args := #[] } :: act.defers } W) :
    (Code.rangeFunc g ps assign body).wpIn F n Tryz.prog Q act w := by
  refine wpIn_rangeFunc ?_
  intro fn hfn
  rw [hro]
  obtain ⟨rec, hrec⟩ : ∃ rec : LoopState → Option Code → Loop, rec = fun st pe => { state := st, pending := pe, fn, tmps := act.tmps, params := ps, assign, body, defers := w.heap.size } := ⟨_, rfl⟩
  obtain ⟨W1, hW1⟩ : ∃ W1, (w.alloc (.deferred (some []))).alloc (.loop (rec .ready none)) = W1 := ⟨_, rfl⟩
  have hL1 : W1.heap[w.heap.size + 1]? = some (.loop (rec .ready none)) := by
    rw [← hW1]; have := World.alloc_heap_new (w.alloc (.deferred (some []))) (.loop (rec .ready none)); rwa [World.size_alloc] at this
  have hK1 : W1.heap[w.heap.size]? = some (.deferred (some [])) := by
    rw [← hW1]; exact (Below.heap_alloc _ _ _ (by simp)).trans (World.alloc_heap_new w _)
  have hI1 : I 0 W1 := by rw [← hW1]; exact h0 _
  refine ⟨w.heap.size + 1, [{ target := .collected w.heap.size, args := #[] }], W1, { target := .fn (.func 109) #[.pointer (some ⟨Bs, 0, none⟩)], args := #[.func (.yield (w.heap.size + 1)) #[] #[]] }, W1, 109,
    #[.func (.yield (w.heap.size + 1)) #[] #[]] ++ #[.pointer (some ⟨Bs, 0, none⟩)], W1, ?_, ?_, ?_, ?_, fun _ => by omega, ?_⟩
  · rw [← hW1, hrec]; exact run_enterLoop_outer _ _ _ _ _
  · simp only [resolve, hg]
    simp [go_sem]
  · intro f' hf'; simp [Target.leads] at hf'; subst hf'; exact hF
  · simp [invoke, go_sem]
  · refine (sValuesIt_in F (n - 1) hF hro (by omega) (w.heap.size + 1) Bs a cap vs
      (fun i W => I i W ∧ W.heap[w.heap.size + 1]? = some (.loop (rec .ready none)) ∧ W.heap[w.heap.size]? = some (.deferred (some [])))
      (fun W => ∃ c, Ix c W ∧ W.heap[w.heap.size + 1]? = some (.loop (rec .done (some c))) ∧ W.heap[w.heap.size]? = some (.deferred (some [])))
      (fun W h => hbox W h.1) hlen (fun i hi W h => hel i hi W h.1) ?_ W1 ⟨hI1, hL1, hK1⟩).mono ?_
    · rintro i hi' W ⟨hi, hl, hk⟩
      have hlt : w.heap.size + 1 < W.heap.size := (Array.getElem?_eq_some_iff.1 hl).1
      have hy := run_yield (P := Tryz.prog) (args := #[vs[i]]) hl (by rw [hrec]; simp [hps])
      rw [hrec] at hy
      refine ⟨fn, _, assign, body, hy, roundIn_of_wpIn hfn (hassign _ vs[i] W _ ⟨_, run_beginRound hl (by rw [hrec]), ?_⟩)⟩
      have hl2 : (W.putObj (w.heap.size + 1) (.loop { rec .ready none with state := .busy })).heap[w.heap.size + 1]? = some (.loop { rec .ready none with state := .busy }) := World.putObj_heap_same hlt
      have hk2 : (W.putObj (w.heap.size + 1) (.loop { rec .ready none with state := .busy })).heap[w.heap.size]? = some (.deferred (some [])) := (World.putObj_heap_other (by omega)).trans hk
      refine wpIn_mono (hbody _ i hi' _ (hI _ _ _ hi hlt)) ?_
      have fin : ∀ (jump : Option Code) (W3 : World), Keep2 w.heap.size (W.putObj (w.heap.size + 1) (.loop { rec .ready none with state := .busy })) W3 →
          (Instr.endRound (w.heap.size + 1) jump).run Tryz.prog W3 = .ok (.bool jump.isNone) (W3.putObj (w.heap.size + 1) (.loop (rec (if jump.isNone then .ready else .done) jump))) ∧
          w.heap.size + 1 < W3.heap.size ∧
          (W3.putObj (w.heap.size + 1) (.loop (rec (if jump.isNone then .ready else .done) jump))).heap[w.heap.size + 1]? = some (.loop (rec (if jump.isNone then .ready else .done) jump)) ∧
          (W3.putObj (w.heap.size + 1) (.loop (rec (if jump.isNone then .ready else .done) jump))).heap[w.heap.size]? = some (.deferred (some [])) := fun jump W3 hk3 => by
        have hl3 := hk3.2.trans hl2
        have := run_endRound (P := Tryz.prog) jump hl3
        rw [hrec] at this ⊢
        have hlt3 := (Array.getElem?_eq_some_iff.1 hl3).1
        exact ⟨this, hlt3, World.putObj_heap_same hlt3, (World.putObj_heap_other (by omega)).trans (hk3.1.trans hk2)⟩
      rintro e a3 W3 hp
      cases e with
      | normal =>
        obtain ⟨hk3, hi3⟩ := hp
        obtain ⟨hr, hl3, hl4, hk4⟩ := fin none W3 hk3
        exact ⟨_, _, hr, .inl ⟨rfl, hI _ _ _ hi3 hl3, hl4, hk4⟩⟩
      | ret =>
        obtain ⟨hk3, hi3⟩ := hp
        obtain ⟨hr, hl3, hl4, hk4⟩ := fin (some .ret) W3 hk3
        exact ⟨_, _, hr, .inr ⟨rfl, .ret, hIx _ _ _ hi3 hl3, hl4, hk4⟩⟩
      | exit id =>
        obtain ⟨hk3, hi3⟩ := hp
        obtain ⟨hr, hl3, hl4, hk4⟩ := fin (some (.exit id)) W3 hk3
        exact ⟨_, _, hr, .inr ⟨rfl, .exit id, hIx _ _ _ hi3 hl3, hl4, hk4⟩⟩
      | goto t =>
        obtain ⟨hk3, hi3⟩ := hp
        obtain ⟨hr, hl3, hl4, hk4⟩ := fin (some (.goto t)) W3 hk3
        exact ⟨_, _, hr, .inr ⟨rfl, .goto t, hIx _ _ _ hi3 hl3, hl4, hk4⟩⟩
      | panic ch => exact hp.elim
      | outgrown => exact hp.elim
    · rintro e W2 ⟨⟨v, rfl⟩, (⟨hi, hl, hk⟩ | ⟨c, hi, hl, hk⟩)⟩
      · exact ⟨none, _, by have := run_endLoop (P := Tryz.prog) hl (by rw [hrec]; simp); rw [hrec] at this; exact this, hdone _ (hI _ _ _ hi (Array.getElem?_eq_some_iff.1 hl).1) ((World.putObj_heap_other (by omega)).trans hk)⟩
      · exact ⟨some c, _, by have := run_endLoop (P := Tryz.prog) hl (by rw [hrec]; simp); rw [hrec] at this; exact this, hstop c _ (hIx _ _ _ hi (Array.getElem?_eq_some_iff.1 hl).1) ((World.putObj_heap_other (by omega)).trans hk)⟩
end Go.Proofs.YtfgmegfgifeaiaaGreatDoor
