/- A region that draws its order, shown by a relation on what has come up that each operation keeps. Single operations of a region that draws its order, each by its law. A part of the proof. -/
import Derived.WalkKit
import Derived.Orders
import Derived.Below
import Derived.Test.YtbdciilkapgfjaaGreatDoorProg
import Derived.Test.YtbdciilkapgfjaaGreatDoorRep
import Derived.Test.YtbdciilkapgfjaaGreatDoorM10
import Derived.Test.YtbdciilkapgfjaaGreatDoorZRow
import Derived.Shelf.Abstract
import Derived.Deep.AppendLies
namespace Go.Proofs.YtbdciilkapgfjaaGreatDoor
open Go.RowKit

theorem lt_of_heap {w : World} {N : Nat} {o : Obj} (h : w.heap[N]? = some o) : N < w.heap.size := (Array.getElem?_eq_some_iff.1 h).1

/-- What an operation of a region that draws its order is good for: a value of which φ holds, as long as the blocks of its set stay (it may write the old block M); a box of n cells of its own; the store of a value into a box. -/
inductive Item where
  | val (M : Option Nat) (φ : Value → (Nat → Prop) → World → Prop)
  | box (t : TypeId) (n : Nat)
  | put (b s : Nat)

/-- Old block b is not written by what has come up. -/
def Still (it : Nat → Item) (d : Nat → Bool) (b : Nat) : Prop := ∀ j φ, it j = .val (some b) φ → d j = false

/-- The operations d have come up. -/
structure Plan (it : Nat → Item) (w0 : World) (d : Nat → Bool) (u : Nat → Value) (S : Nat → Nat → Prop) (w : World) : Prop where
  os : w.os = w0.os
  tape : w.tape = w0.tape
  output : w.output = w0.output
  size : w0.heap.size ≤ w.heap.size
  block : ∀ b, b < w0.heap.size → Still it d b → w.heap[b]? = w0.heap[b]?
  val : ∀ i M φ, it i = .val M φ → d i = true → φ (u i) (S i) w ∧ ∀ b, S i b → (w0.heap.size ≤ b ∨ some b = M) ∧ b < w.heap.size
  box : ∀ i t n, it i = .box t n → d i = true → ∃ N cs, u i = .pointer (some ⟨N, 0, none⟩) ∧ w0.heap.size ≤ N ∧ w.heap[N]? = some (.cells cs t (0, 0)) ∧ cs.size = n
  put : ∀ i b s, it i = .put b s → d i = true → d b = true ∧ d s = true ∧ ∃ N cs t, u b = .pointer (some ⟨N, 0, none⟩) ∧ u s = .agg cs ∧ w0.heap.size ≤ N ∧ w.heap[N]? = some (.cells cs t (0, 0))
  apart : ∀ i j t n t' n', it i = .box t n → it j = .box t' n' → d i = true → d j = true → i ≠ j → u i ≠ u j
  clear : ∀ i M φ j t n N, it i = .val M φ → it j = .box t n → d i = true → d j = true → u j = .pointer (some ⟨N, 0, none⟩) → ¬ S i N
  disj : ∀ i j M φ M' ψ, it i = .val M φ → it j = .val M' ψ → d i = true → d j = true → i ≠ j → ∀ b, S i b → ¬ S j b

/-- Where nothing old is written: all below is as it was. -/
theorem Plan.low {it : Nat → Item} {w0 w : World} {d : Nat → Bool} {u : Nat → Value} {S : Nat → Nat → Prop} (hp : Plan it w0 d u S w) (hn : ∀ j M φ, it j = .val M φ → M = none) : Below w0.heap.size w0 w :=
  ⟨hp.os, hp.tape, hp.output, hp.size, fun b hb => hp.block b hb fun j φ hj => by cases hn j _ φ hj⟩

def upd {α : Type} (u : Nat → α) (i : Nat) (v : α) : Nat → α := fun k => if k = i then v else u k
theorem upd_same {α : Type} (u : Nat → α) (i : Nat) (v : α) : upd u i v i = v := if_pos rfl
theorem upd_ne {α : Type} (u : Nat → α) {i k : Nat} (v : α) (h : k ≠ i) : upd u i v k = u k := if_neg h

section
variable {it : Nat → Item} {w0 : World} {d d' : Nat → Bool} {u u' : Nat → Value} {S : Nat → Nat → Prop} {w w' : World} {i : Nat}
  (hp : Plan it w0 d u S w) (hd : ∀ k, k ≠ i → d' k = d k) (hdi : d i = false) (hd1 : d' i = true) (hu : ∀ k, k ≠ i → u' k = u k)
  (hst : ∀ i M φ, it i = .val M φ → ∀ v S w w', φ v S w → Same S w w' → φ v S w')
  (hM : ∀ i j φ ψ b, it i = .val (some b) φ → it j = .val (some b) ψ → i = j) (hMlt : ∀ i φ b, it i = .val (some b) φ → b < w0.heap.size)
include hp hd hdi hd1 hu hst hM hMlt

/-- A value has come up. -/
theorem Plan.step_val {M : Option Nat} {φ : Value → (Nat → Prop) → World → Prop} {S' : Nat → Prop} (hi : it i = .val M φ) (hb : w.grownBy w' M) (hφ : φ (u' i) S' w') (hS : ∀ b, S' b → (w.heap.size ≤ b ∨ some b = M) ∧ b < w'.heap.size) :
    Plan it w0 d' u' (upd S i S') w' := by
  have old : ∀ k, k ≠ i → d' k = true → d k = true := fun k hk h => by rw [← hd k hk]; exact h
  have keepS : ∀ k ψ M', it k = .val M' ψ → k ≠ i → d k = true → Same (S k) w w' := fun k ψ M' hk hne hdk b hSb => by
    obtain ⟨h1, h2⟩ := (hp.val k M' ψ hk hdk).2 b hSb
    refine hb.block b h2 fun e => ?_
    subst e
    rcases h1 with h1 | h1
    · have := hMlt i φ b hi; omega
    · subst h1; exact hne (hM k i ψ φ b hk hi)
  refine ⟨hb.os.trans hp.os, hb.tape.trans hp.tape, hb.output.trans hp.output, Nat.le_trans hp.size hb.size, fun b hlt hstill => ?_, fun k M' ψ hk hdk => ?_, fun k t n hk hdk => ?_, fun k b s hk hdk => ?_, fun k j t n t' n' hk hj hdk hdj hne => ?_, fun k M' ψ j t n N hk hj hdk hdj hN => ?_, fun k j M1 φ1 M2 φ2 hk hj hdk hdj hne => ?_⟩
  · have h1 : Still it d b := fun j ψ hj => by
      by_cases e : j = i
      · subst e; have := hstill j ψ hj; rw [hd1] at this; cases this
      · rw [← hd j e]; exact hstill j ψ hj
    refine (hb.block b (Nat.lt_of_lt_of_le hlt hp.size) fun e => ?_).trans (hp.block b hlt h1)
    subst e
    have := hstill i φ hi
    rw [hd1] at this; cases this
  · by_cases e : k = i
    · subst e
      rw [hi] at hk; cases hk
      rw [upd_same]
      exact ⟨hφ, fun b hb' => ⟨(hS b hb').1.imp (fun h => Nat.le_trans hp.size h) id, (hS b hb').2⟩⟩
    · rw [upd_ne S S' e, hu k e]
      obtain ⟨h1, h2⟩ := hp.val k M' ψ hk (old k e hdk)
      exact ⟨hst k M' ψ hk _ _ _ _ h1 (keepS k ψ M' hk e (old k e hdk)), fun b hb' => ⟨(h2 b hb').1, Nat.lt_of_lt_of_le (h2 b hb').2 hb.size⟩⟩
  · have e : k ≠ i := by intro e; subst e; rw [hi] at hk; cases hk
    obtain ⟨N, cs, h1, h2, h3, h4⟩ := hp.box k t n hk (old k e hdk)
    exact ⟨N, cs, by rw [hu k e]; exact h1, h2, (hb.block N (lt_of_heap h3) (fun e => by subst e; have := hMlt i φ N hi; omega)).trans h3, h4⟩
  · have e : k ≠ i := by intro e; subst e; rw [hi] at hk; cases hk
    obtain ⟨hb1, hs1, N, cs, t, h1, h2, hN0, h3⟩ := hp.put k b s hk (old k e hdk)
    have eb : b ≠ i := by intro e; rw [e, hdi] at hb1; cases hb1
    have es : s ≠ i := by intro e; rw [e, hdi] at hs1; cases hs1
    refine ⟨by rw [hd b eb]; exact hb1, by rw [hd s es]; exact hs1, N, cs, t, by rw [hu b eb]; exact h1, by rw [hu s es]; exact h2, hN0, (hb.block N (lt_of_heap h3) (fun e => ?_)).trans h3⟩
    subst e
    have h5 := hMlt i φ N hi
    omega
  · have e : k ≠ i := by intro e; subst e; rw [hi] at hk; cases hk
    have e' : j ≠ i := by intro e; subst e; rw [hi] at hj; cases hj
    rw [hu k e, hu j e']
    exact hp.apart k j t n t' n' hk hj (old k e hdk) (old j e' hdj) hne
  · have e' : j ≠ i := by intro e; subst e; rw [hi] at hj; cases hj
    rw [hu j e'] at hN
    by_cases e : k = i
    · subst e
      rw [upd_same]
      intro hSN
      obtain ⟨N', cs, h1, h2, h3, h4⟩ := hp.box j t n hj (old j e' hdj)
      rw [hN] at h1; cases h1
      have h5 := lt_of_heap h3
      rcases (hS N hSN).1 with h6 | h6
      · omega
      · rw [hi] at hk; cases hk
        subst h6
        have := hMlt k φ N hi; omega
    · rw [upd_ne S S' e]
      exact hp.clear k M' ψ j t n N hk hj (old k e hdk) (old j e' hdj) hN
  · have one : ∀ (j : Nat) (M2 : Option Nat) (φ2 : Value → (Nat → Prop) → World → Prop), j ≠ i → it j = .val M2 φ2 → d' j = true → ∀ b, S' b → ¬ S j b := fun j M2 φ2 e' hj hdj b hb1 hb2 => by
      obtain ⟨h1, h2⟩ := (hp.val j M2 φ2 hj (old j e' hdj)).2 b hb2
      rcases (hS b hb1).1 with h3 | h3
      · omega
      · subst h3
        have h4 := hMlt i φ b hi
        rcases h1 with h1 | h1
        · omega
        · subst h1; exact e' (hM j i φ2 φ b hj hi)
    by_cases e : k = i
    · subst e
      have e' : j ≠ k := Ne.symm hne
      rw [upd_same, upd_ne S S' e']
      exact one j M2 φ2 e' hj hdj
    · by_cases e' : j = i
      · subst e'
        rw [upd_same, upd_ne S S' e]
        exact fun b h1 h2 => one k M1 φ1 e hk hdk b h2 h1
      · rw [upd_ne S S' e, upd_ne S S' e']
        exact hp.disj k j M1 φ1 M2 φ2 hk hj (old k e hdk) (old j e' hdj) hne

omit hM hMlt in
/-- A box has been made. -/
theorem Plan.step_box {t : TypeId} {n : Nat} {cs : Array Value} (hi : it i = .box t n) (hn : cs.size = n) (hui : u' i = .pointer (some ⟨w.heap.size, 0, none⟩)) :
    Plan it w0 d' u' S (w.alloc (.cells cs t)) := by
  have hb : Below w.heap.size w (w.alloc (.cells cs t)) := (Below.refl _ _).alloc (Nat.le_refl _) _
  have old : ∀ k, k ≠ i → d' k = true → d k = true := fun k hk h => by rw [← hd k hk]; exact h
  have bl : ∀ j t n N, it j = .box t n → d j = true → u j = .pointer (some ⟨N, 0, none⟩) → N < w.heap.size := fun j t n N hj hdj hN => by
    obtain ⟨N', cs, h1, h2, h3, h4⟩ := hp.box j t n hj hdj
    rw [hN] at h1; cases h1
    exact lt_of_heap h3
  refine ⟨hp.os, hp.tape, hp.output, Nat.le_trans hp.size hb.size, fun b hlt hstill => ?_, fun k M' ψ hk hdk => ?_, fun k t' n' hk hdk => ?_, fun k b s hk hdk => ?_, fun k j t1 n1 t2 n2 hk hj hdk hdj hne => ?_, fun k M' ψ j t1 n1 N hk hj hdk hdj hN => ?_, fun k j M1 φ1 M2 φ2 hk hj hdk hdj hne => ?_⟩
  · refine (hb.block b (Nat.lt_of_lt_of_le hlt hp.size)).trans (hp.block b hlt fun j ψ hj => ?_)
    have e : j ≠ i := by intro e; subst e; rw [hi] at hj; cases hj
    rw [← hd j e]; exact hstill j ψ hj
  · have e : k ≠ i := by intro e; subst e; rw [hi] at hk; cases hk
    rw [hu k e]
    obtain ⟨h1, h2⟩ := hp.val k M' ψ hk (old k e hdk)
    exact ⟨hst k M' ψ hk _ _ _ _ h1 (fun b hb' => hb.block b (h2 b hb').2), fun b hb' => ⟨(h2 b hb').1, Nat.lt_of_lt_of_le (h2 b hb').2 hb.size⟩⟩
  · by_cases e : k = i
    · subst e
      rw [hi] at hk; cases hk
      exact ⟨_, cs, hui, hp.size, heap_alloc_new _ _, hn⟩
    · obtain ⟨N, cs', h1, h2, h3, h4⟩ := hp.box k t' n' hk (old k e hdk)
      exact ⟨N, cs', by rw [hu k e]; exact h1, h2, (hb.block N (lt_of_heap h3)).trans h3, h4⟩
  · have e : k ≠ i := by intro e; subst e; rw [hi] at hk; cases hk
    obtain ⟨hb1, hs1, N, cs, t, h1, h2, hN0, h3⟩ := hp.put k b s hk (old k e hdk)
    have eb : b ≠ i := by intro e; rw [e, hdi] at hb1; cases hb1
    have es : s ≠ i := by intro e; rw [e, hdi] at hs1; cases hs1
    exact ⟨by rw [hd b eb]; exact hb1, by rw [hd s es]; exact hs1, N, cs, t, by rw [hu b eb]; exact h1, by rw [hu s es]; exact h2, hN0, (hb.block N (lt_of_heap h3)).trans h3⟩
  · by_cases e : k = i
    · subst e
      have e' : j ≠ k := Ne.symm hne
      rw [hui, hu j e']
      intro h
      have := bl j t2 n2 _ hj (old j e' hdj) h.symm
      omega
    · by_cases e' : j = i
      · subst e'
        rw [hui, hu k e]
        intro h
        have := bl k t1 n1 _ hk (old k e hdk) h
        omega
      · rw [hu k e, hu j e']
        exact hp.apart k j t1 n1 t2 n2 hk hj (old k e hdk) (old j e' hdj) hne
  · have e : k ≠ i := by intro e; subst e; rw [hi] at hk; cases hk
    obtain ⟨h1, h2⟩ := hp.val k M' ψ hk (old k e hdk)
    by_cases e' : j = i
    · subst e'
      rw [hui] at hN; cases hN
      intro hS
      have := (h2 _ hS).2
      omega
    · rw [hu j e'] at hN
      exact hp.clear k M' ψ j t1 n1 N hk hj (old k e hdk) (old j e' hdj) hN
  · have e : k ≠ i := by intro e; subst e; rw [hi] at hk; cases hk
    have e' : j ≠ i := by intro e; subst e; rw [hi] at hj; cases hj
    exact hp.disj k j M1 φ1 M2 φ2 hk hj (old k e hdk) (old j e' hdj) hne

omit hM hMlt in
/-- A value has been stored into its box. -/
theorem Plan.step_put {b s N : Nat} {cs : Array Value} {t : TypeId} {n : Nat} (hi : it i = .put b s) (hbx : it b = .box t n) (hdb : d b = true) (hds : d s = true) (hub : u b = .pointer (some ⟨N, 0, none⟩)) (hus : u s = .agg cs) (hn : cs.size = n)
    (hone : ∀ j b' s', it j = .put b' s' → b' = b → j = i) (hbs : ∀ j b' s', it j = .put b' s' → ∃ t n, it b' = .box t n) : Plan it w0 d' u' S (w.setRow N cs) := by
  obtain ⟨N', old', h1, h2, h3, h4⟩ := hp.box b t n hbx hdb
  rw [hub] at h1; cases h1
  have oth : ∀ k, k ≠ N → (w.setRow N cs).heap[k]? = w.heap[k]? := fun k hk => setRow_other w N k cs hk
  have hsz : (w.setRow N cs).heap.size = w.heap.size := size_setRow w N cs
  have old : ∀ k, k ≠ i → d' k = true → d k = true := fun k hk h => by rw [← hd k hk]; exact h
  refine ⟨hp.os, hp.tape, hp.output, by rw [hsz]; exact hp.size, fun b' hlt hstill => ?_, fun k M' ψ hk hdk => ?_, fun k t' n' hk hdk => ?_, fun k b' s' hk hdk => ?_, fun k j t1 n1 t2 n2 hk hj hdk hdj hne => ?_, fun k M' ψ j t1 n1 N' hk hj hdk hdj hN => ?_, fun k j M1 φ1 M2 φ2 hk hj hdk hdj hne => ?_⟩
  · refine (oth b' (by omega)).trans (hp.block b' hlt fun j ψ hj => ?_)
    have e : j ≠ i := by intro e; subst e; rw [hi] at hj; cases hj
    rw [← hd j e]; exact hstill j ψ hj
  · have e : k ≠ i := by intro e; subst e; rw [hi] at hk; cases hk
    rw [hu k e]
    obtain ⟨h5, h6⟩ := hp.val k M' ψ hk (old k e hdk)
    have hc := hp.clear k M' ψ b t n N hk hbx (old k e hdk) hdb hub
    exact ⟨hst k M' ψ hk _ _ _ _ h5 (fun b hb' => oth b (by intro e; subst e; exact hc hb')), fun b hb' => by rw [hsz]; exact h6 b hb'⟩
  · have e : k ≠ i := by intro e; subst e; rw [hi] at hk; cases hk
    obtain ⟨N', cs', h5, h6, h7, h8⟩ := hp.box k t' n' hk (old k e hdk)
    by_cases ek : k = b
    · subst ek
      rw [hbx] at hk; cases hk
      rw [hub] at h5; cases h5
      exact ⟨N, cs, by rw [hu k e]; exact hub, h6, setRow_heap w N old' cs t (0, 0) h3, hn⟩
    · have hne : N' ≠ N := by
        intro e2; subst e2
        exact hp.apart k b t' n' t n hk hbx (old k e hdk) hdb ek (by rw [h5, hub])
      exact ⟨N', cs', by rw [hu k e]; exact h5, h6, (oth N' hne).trans h7, h8⟩
  · by_cases e : k = i
    · subst e
      rw [hi] at hk; cases hk
      have eb : b ≠ k := by intro e; rw [e, hdi] at hdb; cases hdb
      have es : s ≠ k := by intro e; rw [e, hdi] at hds; cases hds
      exact ⟨by rw [hd b eb]; exact hdb, by rw [hd s es]; exact hds, N, cs, t, by rw [hu b eb]; exact hub, by rw [hu s es]; exact hus, h2, setRow_heap w N old' cs t (0, 0) h3⟩
    · obtain ⟨hb1, hs1, N', cs', t', h5, h6, hN0, h7⟩ := hp.put k b' s' hk (old k e hdk)
      have eb : b' ≠ i := by intro e; rw [e, hdi] at hb1; cases hb1
      have es : s' ≠ i := by intro e; rw [e, hdi] at hs1; cases hs1
      obtain ⟨t'', n'', hbx'⟩ := hbs k b' s' hk
      have hne : N' ≠ N := by
        intro e2; subst e2
        refine hp.apart b' b t'' n'' t n hbx' hbx hb1 hdb ?_ (by rw [h5, hub])
        intro e3
        exact e (hone k b' s' hk e3)
      exact ⟨by rw [hd b' eb]; exact hb1, by rw [hd s' es]; exact hs1, N', cs', t', by rw [hu b' eb]; exact h5, by rw [hu s' es]; exact h6, hN0, (oth N' hne).trans h7⟩
  · have e : k ≠ i := by intro e; subst e; rw [hi] at hk; cases hk
    have e' : j ≠ i := by intro e; subst e; rw [hi] at hj; cases hj
    rw [hu k e, hu j e']
    exact hp.apart k j t1 n1 t2 n2 hk hj (old k e hdk) (old j e' hdj) hne
  · have e : k ≠ i := by intro e; subst e; rw [hi] at hk; cases hk
    have e' : j ≠ i := by intro e; subst e; rw [hi] at hj; cases hj
    rw [hu j e'] at hN
    exact hp.clear k M' ψ j t1 n1 N' hk hj (old k e hdk) (old j e' hdj) hN
  · have e : k ≠ i := by intro e; subst e; rw [hi] at hk; cases hk
    have e' : j ≠ i := by intro e; subst e; rw [hi] at hj; cases hj
    exact hp.disj k j M1 φ1 M2 φ2 hk hj (old k e hdk) (old j e' hdj) hne
end

/-- How many have not come up. -/
def unlisted (l : List Bool) : Nat := (l.filter (!·)).length
theorem unlisted_set : ∀ (l : List Bool) (i : Nat), l[i]? = some false → unlisted (l.set i true) + 1 = unlisted l
  | [], i, h => by simp at h
  | b :: l, 0, h => by simp at h; subst h; simp [unlisted]
  | b :: l, i + 1, h => by
    have ih := unlisted_set l i (by simpa using h)
    unfold unlisted at *
    cases b <;> simp at ih ⊢ <;> omega

theorem getD_of_lt {l : Array Bool} {k : Nat} (h : k < l.size) (b b' : Bool) : l.getD k b = l.getD k b' := by simp [h]

/-- Does operation i wait for operation j, at once or through others? -/
def reachB (ops : Array Oper) : Nat → Nat → Nat → Bool
  | 0, _, _ => false
  | n + 1, i, j => match ops[i]? with | some o => o.after.any fun e => Region.binds .any e && (e.on == j || reachB ops n e.on j) | none => false
theorem reach_listed {ops : Array Oper} {l : Nat → Bool} (hcl : ∀ k o, ops[k]? = some o → l k = true → ∀ e ∈ o.after, Region.binds .any e = true → l e.on = true) :
    ∀ (n i j : Nat) (o : Oper), ops[i]? = some o → (∀ e ∈ o.after, Region.binds .any e = true → l e.on = true) → reachB ops n i j = true → l j = true
  | 0, i, j, o, _, _, h => by cases h
  | n + 1, i, j, o, ho, hd, h => by
    unfold reachB at h
    rw [ho] at h
    simp only [Array.any_eq_true] at h
    obtain ⟨k, hk, h⟩ := h
    simp only [Bool.and_eq_true, Bool.or_eq_true, beq_iff_eq] at h
    have hl := hd o.after[k] (Array.getElem_mem hk) h.1
    rcases h.2 with h2 | h2
    · rw [← h2]; exact hl
    · cases ho' : ops[(o.after[k]).on]? with
      | none =>
        cases n with
        | zero => cases h2
        | succ n => unfold reachB at h2; rw [ho'] at h2; cases h2
      | some o' => exact reach_listed hcl n _ j o' ho' (hcl _ o' ho' hl) h2

/-- Whatever order: a relation on what has come up, kept by each operation of T; the others wait for all of T. -/
theorem wpAny_of_steps {P : Program} {ops : Array Oper} {Q : Exit → Act → World → Prop} (T : Nat → Bool) (J : (Nat → Bool) → Act → World → Prop)
    (hacyc : ∀ i o, ops[i]? = some o → ∀ e ∈ o.after, Region.binds .any e = true → e.on < i)
    (hlast : ∀ i o, ops[i]? = some o → T i = false → ∀ j, j < ops.size → T j = true → ∃ n, reachB ops n i j = true)
    (step : ∀ i o, ops[i]? = some o → T i = true → ∀ d d' a w, J d a w → d i = false → (∀ e ∈ o.after, Region.binds .any e = true → d e.on = true) → d' i = true → (∀ k, k ≠ i → d' k = d k) → wpOp P ops Q i (J d') a w)
    (fin : ∀ d a w, (∀ k, d k = (T k || decide (ops.size ≤ k))) → J d a w → ∀ fuel listed, listed.size = ops.size → (∀ k, k < ops.size → listed.getD k true = T k) → unlisted listed.toList ≤ fuel → wpAny P .any ops Q fuel listed a w) :
    ∀ (fuel : Nat) (listed : Array Bool) (a : Act) (w : World), listed.size = ops.size → unlisted listed.toList ≤ fuel → (∀ k o, ops[k]? = some o → listed.getD k true = true → ∀ e ∈ o.after, Region.binds .any e = true → listed.getD e.on true = true) → (∀ k, k < ops.size → T k = false → listed.getD k true = false) → J (fun k => listed.getD k true) a w → wpAny P .any ops Q fuel listed a w := by
  have done : ∀ (listed : Array Bool), listed.size = ops.size → Region.ready .any ops listed = [] → ∀ k, listed.getD k true = true := by
    intro listed hsz hr k
    induction k using Nat.strongRecOn with
    | ind k ih =>
      rcases Nat.lt_or_ge k listed.size with hk | hk
      · cases hl : listed.getD k true with
        | true => rfl
        | false =>
          exfalso
          obtain ⟨o, ho⟩ : ∃ o, ops[k]? = some o := ⟨ops[k]'(by omega), by simp [show k < ops.size by omega]⟩
          have : k ∈ Region.ready .any ops listed := mem_ready.2 ⟨hl, o, ho, fun e he hb => by
            have h1 := hacyc k o ho e he hb
            have h2 := ih e.on h1
            rw [getD_of_lt (by omega) false true]; exact h2⟩
          rw [hr] at this
          cases this
      · simp [Array.getElem?_eq_none hk]
  intro fuel
  induction fuel with
  | zero =>
    intro listed a w hsz hf _ hT hJ
    have hall : ∀ k, listed.getD k true = true := by
      intro k
      rcases Nat.lt_or_ge k listed.size with hk | hk
      · cases hl : listed.getD k true with
        | true => rfl
        | false =>
          exfalso
          have h1 : listed.toList[k]? = some false := by simp [hk] at hl ⊢; exact hl
          have := unlisted_set listed.toList k h1
          omega
      · simp [Array.getElem?_eq_none hk]
    have hTk : ∀ k, k < ops.size → T k = true := fun k hk => by
      cases h : T k with
      | true => rfl
      | false => have := hT k hk h; rw [hall k] at this; cases this
    refine fin _ a w (fun k => ?_) hJ 0 listed hsz (fun k hk => by rw [hall k, hTk k hk]) hf
    rw [hall k]
    rcases Nat.lt_or_ge k ops.size with hk | hk
    · rw [hTk k hk]; rfl
    · simp [hk]
  | succ fuel ih =>
    intro listed a w hsz hf hcl hT hJ
    by_cases hall : ∀ k, k < ops.size → T k = true → listed.getD k true = true
    · refine fin _ a w (fun k => ?_) hJ (fuel + 1) listed hsz (fun k hk => ?_) hf
      · rcases Nat.lt_or_ge k ops.size with hk | hk
        · cases h : T k with
          | true => rw [hall k hk h]; rfl
          | false => rw [hT k hk h]; simp; omega
        · have : listed.getD k true = true := by simp [Array.getElem?_eq_none (show listed.size ≤ k by omega)]
          rw [this]; simp [hk]
      · cases h : T k with
        | true => exact hall k hk h
        | false => exact hT k hk h
    · obtain ⟨k0, hk0, hTk0, hl0⟩ : ∃ k0, k0 < ops.size ∧ T k0 = true ∧ listed.getD k0 true = false := by
        simp only [Classical.not_forall] at hall
        obtain ⟨k0, h1, h2, h3⟩ := hall
        exact ⟨k0, h1, h2, by simpa using h3⟩
      refine ⟨fun hr => ?_, fun i hi => ?_⟩
      · have := done listed hsz hr k0
        rw [hl0] at this; cases this
      · obtain ⟨h0, o, ho, hdep⟩ := mem_ready.1 hi
        have hil : i < listed.size := by
          rcases Nat.lt_or_ge i listed.size with h | h
          · exact h
          · simp [Array.getElem?_eq_none h] at h0
        have hTi : T i = true := by
          cases h : T i with
          | true => rfl
          | false =>
            obtain ⟨n, hn⟩ := hlast i o ho h k0 hk0 hTk0
            have h1 := reach_listed (l := fun k => listed.getD k true) hcl n i k0 o ho (fun e he hb => by
              have h1 := hdep e he hb
              have h2 := hacyc i o ho e he hb
              show listed.getD e.on true = true
              rw [getD_of_lt (by omega) true false]; exact h1) hn
            simp only [hl0] at h1
            cases h1
        refine wpOp_mono (fun a' w' h => ih (listed.setIfInBounds i true) a' w' (by simpa using hsz) ?_ ?_ ?_ h)
          (step i o ho hTi (fun k => listed.getD k true) (fun k => (listed.setIfInBounds i true).getD k true) a w hJ h0 (fun e he hb => ?_) ?_ ?_)
        · have h1 : listed.toList[i]? = some false := by simp [hil] at h0 ⊢; exact h0
          have h2 := unlisted_set listed.toList i h1
          have e : (listed.setIfInBounds i true).toList = listed.toList.set i true := by simp
          rw [e]; omega
        · intro k o' ho' hk e he hb
          have mono : ∀ j, listed.getD j true = true → (listed.setIfInBounds i true).getD j true = true := fun j hj => by
            by_cases e : i = j
            · subst e; simp [hil]
            · rw [getD_set_ne true e]; exact hj
          by_cases eik : i = k
          · subst eik
            rw [ho] at ho'; cases ho'
            have h1 := hdep e he hb
            have h2 := hacyc i o ho e he hb
            exact mono _ (by rw [getD_of_lt (by omega) true false]; exact h1)
          · rw [getD_set_ne true eik] at hk
            exact mono _ (hcl k o' ho' hk e he hb)
        · intro k hk hTk
          have hne : i ≠ k := by intro e; subst e; rw [hTi] at hTk; cases hTk
          rw [getD_set_ne true hne]; exact hT k hk hTk
        · have h1 := hdep e he hb
          have h2 := hacyc i o ho e he hb
          show listed.getD e.on true = true
          rw [getD_of_lt (by omega) true false]; exact h1
        · show (listed.setIfInBounds i true).getD i true = true
          simp [hil]
        · intro k hk
          exact getD_set_ne true (Ne.symm hk)

/-- A frame whose slots that the operations write hold u. -/
def frameL : List (Oper × Nat) → Act → (Nat → Value) → Act
  | [], a, _ => a
  | p :: L, a, u => frameL L (a.put p.1.dst (u p.2)) u

theorem put_put (a : Act) (d : Option Tmp) (x y : Value) : (a.put d x).put d y = a.put d y := by
  cases d with
  | none => rfl
  | some t => simp [Act.put, Array.setIfInBounds_setIfInBounds]
theorem frameL_put : ∀ (L : List (Oper × Nat)) (a : Act) (u : Nat → Value) (d : Option Tmp) (v : Value), (∀ t, d = some t → ∀ p ∈ L, p.1.dst ≠ some t) → (frameL L a u).put d v = frameL L (a.put d v) u
  | [], _, _, _, _, _ => rfl
  | p :: L, a, u, d, v, h => by
    unfold frameL
    rw [frameL_put L _ u d v (fun t ht q hq => h t ht q (List.mem_cons_of_mem _ hq)), Act.put_comm a (u p.2) v]
    intro t ht e
    exact h t e p List.mem_cons_self ht
theorem frameL_upd : ∀ (L : List (Oper × Nat)) (a : Act) (u : Nat → Value) (i : Nat) (v : Value), (∀ p ∈ L, p.2 ≠ i) → frameL L a (upd u i v) = frameL L a u
  | [], _, _, _, _, _ => rfl
  | p :: L, a, u, i, v, h => by
    unfold frameL
    rw [upd_ne u v (h p List.mem_cons_self)]
    exact frameL_upd L _ u i v (fun q hq => h q (List.mem_cons_of_mem _ hq))
/-- No slot is written twice. -/
def Apart : List (Oper × Nat) → Prop
  | [] => True
  | p :: L => (∀ q ∈ L, q.2 ≠ p.2 ∧ ∀ t, p.1.dst = some t → q.1.dst ≠ some t) ∧ Apart L
theorem frameL_step : ∀ (L : List (Oper × Nat)) (a : Act) (u : Nat → Value) (o : Oper) (i : Nat) (v : Value), Apart L → (o, i) ∈ L → (frameL L a u).put o.dst v = frameL L a (upd u i v)
  | [], _, _, _, _, _, _, h => by cases h
  | p :: L, a, u, o, i, v, hA, h => by
    unfold frameL
    unfold Apart at hA
    rcases List.mem_cons.1 h with e | h
    · subst e
      rw [frameL_put L _ u o.dst v (fun t ht q hq => (hA.1 q hq).2 t ht), put_put, upd_same, frameL_upd L _ u i v (fun q hq => (hA.1 q hq).1)]
    · rw [frameL_step L _ u o i v hA.2 h, upd_ne u v]
      exact Ne.symm (hA.1 _ h).1
theorem put_self (a : Act) (d : Option Tmp) : a.put d ((d.map fun t => a.tmps.getD t undef).getD undef) = a := by
  cases d with
  | none => rfl
  | some t =>
    obtain ⟨tmps, defers⟩ := a
    simp only [Act.put, Option.map_some, Option.getD_some]
    congr 1
    apply Array.ext
    · simp
    · intro j h1 h2
      by_cases e : t = j
      · subst e; simp [h2]
      · simp [Array.getElem_setIfInBounds_ne h2 e]
theorem frameL_self : ∀ (L : List (Oper × Nat)) (a : Act) (u : Nat → Value), (∀ p ∈ L, u p.2 = ((p.1.dst.map fun t => a.tmps.getD t undef).getD undef)) → frameL L a u = a
  | [], _, _, _ => rfl
  | p :: L, a, u, h => by
    unfold frameL
    rw [h p List.mem_cons_self, put_self]
    exact frameL_self L a u (fun q hq => h q (List.mem_cons_of_mem _ hq))

def frameOf (ops : Array Oper) (a : Act) (u : Nat → Value) : Act := frameL ops.toList.zipIdx a u
theorem frameL_size : ∀ (L : List (Oper × Nat)) (a : Act) (u : Nat → Value), (frameL L a u).tmps.size = a.tmps.size
  | [], _, _ => rfl
  | p :: L, a, u => by
    unfold frameL
    rw [frameL_size L]
    cases p.1.dst <;> simp [Act.put]
theorem frameOf_size (ops : Array Oper) (a : Act) (u : Nat → Value) : (frameOf ops a u).tmps.size = a.tmps.size := frameL_size _ _ _

def apartB : List (Oper × Nat) → Bool
  | [] => true
  | p :: L => (L.all fun q => q.2 != p.2 && (match p.1.dst with | some t => q.1.dst != some t | none => true)) && apartB L
theorem apart_of : ∀ (L : List (Oper × Nat)), apartB L = true → Apart L
  | [], _ => trivial
  | p :: L, h => by
    simp only [apartB, Bool.and_eq_true, List.all_eq_true] at h
    refine ⟨fun q hq => ?_, apart_of L h.2⟩
    have h1 := h.1 q hq
    simp only [bne_iff_ne, ne_eq] at h1
    refine ⟨h1.1, fun t ht => ?_⟩
    have h2 := h1.2
    rw [ht] at h2
    simpa using h2

/-- Does operation o wait for operation j? -/
def waitsB (o : Oper) (j : Nat) : Bool := o.after.any fun e => Region.binds .any e && e.on == j
theorem waits_of {o : Oper} {j : Nat} (h : waitsB o j = true) : ∃ e ∈ o.after, Region.binds .any e = true ∧ e.on = j := by
  unfold waitsB at h
  rw [Array.any_eq_true] at h
  obtain ⟨k, hk, h⟩ := h
  simp only [Bool.and_eq_true, beq_iff_eq] at h
  exact ⟨o.after[k], Array.getElem_mem hk, h.1, h.2⟩

/-- The slots that are read in the frame b: those that the operations write, those that they leave. -/
def Reads (news : List (Nat × Tmp)) (olds : List (Tmp × Value)) (u : Nat → Value) (b : Act) : Prop :=
  (∀ p ∈ news, b.eval (.tmp p.2) = u p.1) ∧ ∀ p ∈ olds, b.eval (.tmp p.1) = p.2

/-- What is to be shown of operation i. -/
def StepOK (P : Program) (news : List (Nat × Tmp)) (olds : List (Tmp × Value)) (it : Nat → Item) (w0 : World) (i : Nat) (o : Oper) : Prop :=
  match it i with
  | .val M φ => ∀ Q d u S w b K, Plan it w0 d u S w → d i = false → Reads news olds u b → (∀ e ∈ o.after, Region.binds .any e = true → d e.on = true) → Hid (∀ v S' w', w.grownBy w' M → φ v S' w' → (∀ b, S' b → (w.heap.size ≤ b ∨ some b = M) ∧ b < w'.heap.size) → K (b.put o.dst v) w') → Oper.wp P o b w K Q
  | .box t n => ∃ z, z.cells.size = n ∧ o.op = .alloc t ∧ ∀ w, (zeroValue t).run P w = .ok z w
  | .put b s => (∃ t n M φ, it b = .box t n ∧ it s = .val M φ ∧ (∀ v S w, φ v S w → ∃ cs, v = .agg cs ∧ cs.size = n ∧ cs.all (·.oneCell') = true)) ∧ (∃ e ∈ o.after, Region.binds .any e = true ∧ e.on = b) ∧ (∃ e ∈ o.after, Region.binds .any e = true ∧ e.on = s) ∧
    ∃ ty x y, o.op = .store ty (.tmp x) (.tmp y) ∧ (b, x) ∈ news ∧ (s, y) ∈ news ∧ (∀ t n, it b = .box t n → (P.info? ty).map (·.size) = some n) ∧ o.dst = none

/-- A box made by new. -/
theorem wp_alloc_box {P : Program} {o : Oper} {a : Act} {w : World} {K : Act → World → Prop} {Q : Exit → Act → World → Prop} (t : TypeId) (z : Value) (ho : o.op = .alloc t) (hz : ∀ w, (zeroValue t).run P w = .ok z w)
    (h : K (a.put o.dst (.pointer (some ⟨w.heap.size, 0, none⟩))) (w.alloc (.cells z.cells t))) : o.wp P a w K Q := by
  unfold Oper.wp execOp
  simp [ho, Instr.alloc, hz, Result.andThen]
  exact h

theorem frameL_old : ∀ (L : List (Oper × Nat)) (a : Act) (u : Nat → Value) (t : Tmp), (∀ p ∈ L, p.1.dst ≠ some t) → (frameL L a u).eval (.tmp t) = a.eval (.tmp t)
  | [], _, _, _, _ => rfl
  | p :: L, a, u, t, h => by
    unfold frameL
    rw [frameL_old L _ u t (fun q hq => h q (List.mem_cons_of_mem _ hq))]
    exact Act.eval_put fun d hd e => h p List.mem_cons_self (by cases e; exact hd)
theorem eval_put_self {a : Act} {t : Tmp} {v : Value} (h : t < a.tmps.size) : (a.put (some t) v).eval (.tmp t) = v := by simp [Act.eval, Act.put, h]
theorem frameL_new : ∀ (L : List (Oper × Nat)) (a : Act) (u : Nat → Value) (o : Oper) (i : Nat) (t : Tmp), Apart L → (o, i) ∈ L → o.dst = some t → t < a.tmps.size → (frameL L a u).eval (.tmp t) = u i
  | [], _, _, _, _, _, _, h, _, _ => by cases h
  | p :: L, a, u, o, i, t, hA, h, hd, ht => by
    unfold frameL
    unfold Apart at hA
    rcases List.mem_cons.1 h with e | h
    · subst e
      rw [frameL_old L _ u t (fun q hq => (hA.1 q hq).2 t hd), hd]
      exact eval_put_self ht
    · refine frameL_new L _ u o i t hA.2 h hd ?_
      cases hp : p.1.dst <;> simp [Act.put, ht]

/-- The plan's closed facts: each operation waits for earlier ones alone, none has a guard, no slot is written twice, the slots are those that are named. -/
def planB (ops : Array Oper) (n m : Nat) (news : List (Nat × Tmp)) (olds : List Tmp) : Bool :=
  decide (ops.size = n) && (ops.toList.zipIdx.all fun p => p.1.guard.isNone && p.1.after.all fun e => !Region.binds .any e || decide (e.on < p.2)) && apartB ops.toList.zipIdx &&
  (news.all fun p => decide (p.2 < m) && (match ops[p.1]? with | some o => o.dst == some p.2 | none => false)) && (olds.all fun t => ops.toList.all fun o => o.dst != some t)

/-- A region that draws its order, by a plan for the operations of T. -/
theorem plan_core {P : Program} {id : Nat} {ops : Array Oper} {Q : Exit → Act → World → Prop} {a : Act} {w : World} (nn m : Nat) (news : List (Nat × Tmp)) (olds : List (Tmp × Value)) (it : Nat → Item) (T : Nat → Bool) (hm : P.follows .mixedOrders = true)
    (hplan : planB ops nn m news (olds.map (·.1)) = true) (hsize : a.tmps.size = m) (holds : ∀ p ∈ olds, a.eval (.tmp p.1) = p.2)
    (hst : ∀ i M φ, it i = .val M φ → ∀ v S w w', φ v S w → Same S w w' → φ v S w')
    (hM : ∀ i j φ ψ b, it i = .val (some b) φ → it j = .val (some b) ψ → i = j) (hMlt : ∀ i φ b, it i = .val (some b) φ → b < w.heap.size)
    (hlast : ((List.range nn).all fun i => T i || (List.range nn).all fun j => !T j || reachB ops nn i j) = true)
    (hone : ∀ i j b s s', it i = .put b s → it j = .put b s' → i = j)
    (hrest : ∀ i, nn ≤ i ∨ T i = false → it i = .val none fun _ _ _ => True)
    (steps : ∀ i o, ops[i]? = some o → T i = true → StepOK P news olds it w i o)
    (fin : ∀ u S w', Plan it w (fun k => T k || decide (nn ≤ k)) u S w' → Reads news olds u (frameOf ops a u) → ∀ fuel listed, listed.size = nn → (∀ k, k < nn → listed.getD k true = T k) → unlisted listed.toList ≤ fuel → wpAny P .any ops Q fuel listed (frameOf ops a u) w') : (Code.region id ops true).wp P Q a w := by
  unfold planB at hplan
  simp only [Bool.and_eq_true, decide_eq_true_eq] at hplan
  obtain ⟨⟨⟨⟨hn, hac⟩, hap⟩, hnews⟩, hol⟩ := hplan
  have hA := apart_of _ hap
  have hin : ∀ i o, ops[i]? = some o → (o, i) ∈ ops.toList.zipIdx := fun i o ho => by
    rw [List.mem_zipIdx_iff_getElem?]
    simpa using ho
  have hF : ∀ i o, ops[i]? = some o → ∀ u v, (frameOf ops a u).put o.dst v = frameOf ops a (upd u i v) := fun i o ho u v => frameL_step _ a u o i v hA (hin i o ho)
  have hg : ∀ i o, ops[i]? = some o → o.guard = none ∧ ∀ e ∈ o.after, Region.binds .any e = true → e.on < i := by
    intro i o ho
    have h2 := (List.all_eq_true.1 hac) _ (hin i o ho)
    simp only [Bool.and_eq_true, Option.isNone_iff_eq_none] at h2
    refine ⟨h2.1, fun e he hb => ?_⟩
    have h3 := (Array.all_eq_true_iff_forall_mem.1 h2.2) e he
    simpa [hb] using h3
  have hR : ∀ u, Reads news olds u (frameOf ops a u) := by
    intro u
    refine ⟨fun p hp => ?_, fun p hp => ?_⟩
    · have h1 := (List.all_eq_true.1 hnews) p hp
      simp only [Bool.and_eq_true, decide_eq_true_eq] at h1
      obtain ⟨h2, h3⟩ := h1
      split at h3
      · rename_i o ho
        exact frameL_new _ a u o p.1 p.2 hA (hin _ o ho) (by simpa using h3) (by rw [hsize]; exact h2)
      · cases h3
    · have h1 := (List.all_eq_true.1 hol) p.1 (List.mem_map.2 ⟨p, hp, rfl⟩)
      rw [← holds p hp]
      refine frameL_old _ a u p.1 fun q hq => ?_
      have h2 : q.1 ∈ ops.toList := by
        obtain ⟨o, i⟩ := q
        rw [List.mem_zipIdx_iff_getElem?] at hq
        exact List.mem_of_getElem? hq
      have h3 := (List.all_eq_true.1 h1) q.1 h2
      simpa using h3
  have hbs : ∀ j b' s', it j = .put b' s' → ∃ t n, it b' = .box t n := by
    intro j b' s' hj
    rcases Nat.lt_or_ge j ops.size with hlt | hge
    · cases hT : T j with
      | false => rw [hrest j (Or.inr hT)] at hj; cases hj
      | true =>
        obtain ⟨o, ho⟩ : ∃ o, ops[j]? = some o := ⟨ops[j], by simp [hlt]⟩
        have h := steps j o ho hT
        unfold StepOK at h
        rw [hj] at h
        obtain ⟨⟨t, n, M, φ, h1, _⟩, _⟩ := h
        exact ⟨t, n, h1⟩
    · rw [hrest j (Or.inl (by omega))] at hj; cases hj
  have hlast' : ∀ i o, ops[i]? = some o → T i = false → ∀ j, j < ops.size → T j = true → ∃ n, reachB ops n i j = true := by
    intro i o ho hTi j hj hTj
    have hi := (Array.getElem?_eq_some_iff.1 ho).1
    have h1 := (List.all_eq_true.1 hlast) i (List.mem_range.2 (by omega))
    rw [hTi, Bool.false_or] at h1
    have h2 := (List.all_eq_true.1 h1) j (List.mem_range.2 (by omega))
    rw [hTj, Bool.not_true, Bool.false_or] at h2
    exact ⟨nn, h2⟩
  have h0 : ∃ u0, frameOf ops a u0 = a := by
    refine ⟨fun i => (((ops[i]?).bind (·.dst)).map fun t => a.tmps.getD t undef).getD undef, frameL_self _ a _ fun p hp => ?_⟩
    obtain ⟨o, i⟩ := p
    rw [List.mem_zipIdx_iff_getElem?] at hp
    have ho : ops[i]? = some o := by simpa using hp
    simp [ho]
  obtain ⟨u0, hu0⟩ := h0
  rw [← hu0]
  refine wp_region_any hm (wpAny_of_steps T (fun d a1 w' => ∃ u S, a1 = frameOf ops a u ∧ Plan it w d u S w') (fun i o ho => (hg i o ho).2) hlast' ?_ ?_ _ _ _ _ (by simp) ?_ ?_ ?_ ?_)
  · rintro i o ho hTi d d' a1 w1 ⟨u, S, rfl, hp⟩ hdi hdeps hd'i hd'
    have h := steps i o ho hTi
    have hw : Region.wanted o (yielded ops (frameOf ops a u).tmps) = true := by simp [Region.wanted, (hg i o ho).1]
    unfold wpOp
    simp only [ho, hw, if_true]
    refine .inl ?_
    unfold StepOK at h
    cases hi : it i with
    | val M φ =>
      rw [hi] at h
      exact h _ d u S w1 _ _ hp hdi (hR u) hdeps fun v S' w' hb hφ hS => ⟨upd u i v, upd S i S', hF i o ho u v, hp.step_val hd' hdi hd'i (fun k hk => upd_ne u v hk) hst hM hMlt hi hb (by rw [upd_same]; exact hφ) hS⟩
    | box t n =>
      rw [hi] at h
      obtain ⟨z, hn, hop, hz⟩ := h
      exact wp_alloc_box t z hop hz ⟨upd u i _, S, hF i o ho u _, hp.step_box hd' hdi hd'i (fun k hk => upd_ne u _ hk) hst hi hn (upd_same u i _)⟩
    | put b s =>
      rw [hi] at h
      obtain ⟨⟨t, n, M, φ, hb, hs, hag⟩, ⟨e1, he1, hb1, ho1⟩, ⟨e2, he2, hb2, ho2⟩, ty, x, y, hop, hx, hy, hinfo, hdst⟩ := h
      have hdb : d b = true := by rw [← ho1]; exact hdeps e1 he1 hb1
      have hds : d s = true := by rw [← ho2]; exact hdeps e2 he2 hb2
      obtain ⟨N, old, h1, h2, h3, h4⟩ := hp.box b t n hb hdb
      obtain ⟨cs, hcs, hsz, hone1⟩ := hag _ _ _ (hp.val s M φ hs hds).1
      refine wp_store_row ty (.tmp x) (.tmp y) hop N cs (((hR u).1 _ hx).trans h1) (((hR u).1 _ hy).trans hcs) t old h3 (by rw [hinfo t n hb, hsz]) (by omega) hone1 ?_
      exact ⟨upd u i undef, S, hF i o ho u undef, hp.step_put hd' hdi hd'i (fun k hk => upd_ne u _ hk) hst hi hb hdb hds h1 hcs hsz (fun j b' s' hj hjb => by subst hjb; exact hone j i b' s' s hj hi) hbs⟩
  · rintro d a1 w' hall ⟨u, S, rfl, hp⟩ fuel listed hsz hl hf
    have e : d = fun k => T k || decide (nn ≤ k) := funext fun k => by rw [hall k, hn]
    subst e
    exact fin u S w' hp (hR u) fuel listed (by omega) (fun k hk => hl k (by omega)) hf
  · simp [unlisted]
  · intro k o ho hk
    have := (Array.getElem?_eq_some_iff.1 ho).1
    simp [this] at hk
  · intro k hk _
    simp [hk]
  · refine ⟨u0, fun _ _ => False, rfl, ⟨rfl, rfl, rfl, Nat.le_refl _, fun _ _ _ => rfl, fun i M φ hi hd => ?_, fun i t n hi hd => ?_, fun i b s hi hd => ?_, fun i j t n t' n' hi _ hd _ _ => ?_, fun i M φ j t n N _ hj _ hd _ => ?_, fun i j M φ M' ψ hi _ hd _ _ b hb => hb.elim⟩⟩
    all_goals
      have hge : ∀ k, (Array.replicate ops.size false).getD k true = true → nn ≤ k := fun k hk => by
        rcases Nat.lt_or_ge k ops.size with h | h
        · simp [h] at hk
        · omega
    · have := hrest i (Or.inl (hge i hd))
      rw [hi] at this; cases this
      exact ⟨trivial, fun b hb => hb.elim⟩
    · have := hrest i (Or.inl (hge i hd))
      rw [hi] at this; cases this
    · have := hrest i (Or.inl (hge i hd))
      rw [hi] at this; cases this
    · have := hrest i (Or.inl (hge i hd))
      rw [hi] at this; cases this
    · have := hrest j (Or.inl (hge j hd))
      rw [hj] at this; cases this

/-- A region that draws its order, by a plan. -/
theorem plan_region {P : Program} {id : Nat} {ops : Array Oper} {Q : Exit → Act → World → Prop} {a : Act} {w : World} (nn m : Nat) (news : List (Nat × Tmp)) (olds : List (Tmp × Value)) (it : Nat → Item) (hm : P.follows .mixedOrders = true)
    (hplan : planB ops nn m news (olds.map (·.1)) = true) (hsize : a.tmps.size = m) (holds : ∀ p ∈ olds, a.eval (.tmp p.1) = p.2)
    (hst : ∀ i M φ, it i = .val M φ → ∀ v S w w', φ v S w → Same S w w' → φ v S w')
    (hnone : ∀ i M φ, it i = .val M φ → M = none)
    (hone : ∀ i j b s s', it i = .put b s → it j = .put b s' → i = j)
    (hrest : ∀ i, nn ≤ i → it i = .val none fun _ _ _ => True)
    (steps : ∀ i o, ops[i]? = some o → StepOK P news olds it w i o)
    (fin : ∀ u S w', Plan it w (fun _ => true) u S w' → Q .normal (frameOf ops a u) w') : (Code.region id ops true).wp P Q a w := by
  refine plan_core nn m news olds it (fun _ => true) hm hplan hsize holds hst (fun i _ φ _ b h _ => by have := hnone i _ φ h; cases this) (fun i φ b h => by have := hnone i _ φ h; cases this) (by simp) hone
    (fun i h => hrest i (h.elim (fun h => h) (fun h => by cases h))) (fun i o ho _ => steps i o ho) fun u S w' hp _ fuel listed hsz hl hf => ?_
  have hr : Region.ready .any ops listed = [] := by
    apply List.eq_nil_iff_forall_not_mem.2
    intro j hj
    obtain ⟨h0, o, ho, _⟩ := mem_ready.1 hj
    have hlt : j < nn := by
      rcases Nat.lt_or_ge j nn with h | h
      · exact h
      · simp [Array.getElem?_eq_none (show listed.size ≤ j by omega)] at h0
    rw [hl j hlt] at h0; cases h0
  exact wpAny_done hr (fin u S w' (by simpa using hp)) fuel

/-- A value that is known. -/
def isV (c : Value) : Value → (Nat → Prop) → World → Prop := fun v _ _ => v = c

/-- A call of a function of the program, met by its contract. -/
theorem wp_call_fn {P : Program} {o : Oper} {a : Act} {w : World} {K : Act → World → Prop} {Q : Exit → Act → World → Prop} (f : FuncId) (xs : Array Operand) (ts : Array TypeId) (vs : Array Value) (hf : Enters P f)
    (ho : o.op = .call { callee := .value (.func f), args := xs, argTypes := ts }) (hv : xs.map a.eval = vs)
    (h : Calls P f vs w fun e w' => ∃ v, e = .returned v ∧ K (a.put o.dst v) w') : o.wp P a w K Q := by
  have he : a.eval (.func f) = .func (.func f) #[] #[] := rfl
  unfold Oper.wp execOp
  simp only [ho, resolve, he, hv, Deferred.ofValue, invoke, Sem.run_bind, Sem.run_pure, Result.andThen_ok, Array.empty_append, Array.append_empty, hf vs w]
  refine h.mono ?_
  rintro e w' ⟨v, rfl, hk⟩
  exact hk

theorem size_value : (Tryz.prog.info? 26).map (·.size) = some 6 := by kernel_rfl
/-- A Value read out of its box. -/
theorem wp_load_box {o : Oper} {a : Act} {w : World} {K : Act → World → Prop} {Q : Exit → Act → World → Prop} (x : Operand) (ho : o.op = .load 26 x) (N : Nat) (c : VC) (hx : a.eval x = .pointer (some ⟨N, 0, none⟩)) (hb : Box w N c)
    (h : K (a.put o.dst (VC.val c)) w) : o.wp Tryz.prog a w K Q :=
  wp_load_row 26 x ho N hx 26 c.arr (0, 0) _ hb Tryz.underlying26 rfl size_value h

section
variable {news : List (Nat × Tmp)} {olds : List (Tmp × Value)} {it : Nat → Item} {w0 : World} {i : Nat} {o : Oper}

/-- A Value that lay in its box already. -/
theorem step_load {c : VC} {N : Nat} (t : Tmp) (hit : it i = .val none (isV (VC.val c))) (ho : o.op = .load 26 (.tmp t)) (hmem : (t, Value.pointer (some ⟨N, 0, none⟩)) ∈ olds) (hb : Box w0 N c) (hN : ∀ j φ, it j ≠ .val (some N) φ) : StepOK Tryz.prog news olds it w0 i o := by
  unfold StepOK
  rw [hit]
  intro Q d u S w b K hp hdi hR hd hK
  exact wp_load_box (.tmp t) ho N c (hR.2 _ hmem) ((hp.block N hb.lt fun j φ hj => absurd hj (hN j φ)).trans hb) (hK.out _ (fun _ => False) _ (grown_of_below0 (Below.refl _ _) _) rfl (fun _ h => h.elim))

theorem isV_of {d : Nat → Bool} {u : Nat → Value} {S : Nat → Nat → Prop} {w : World} (hp : Plan it w0 d u S w) {j : Nat} {X : Value} (hj : it j = .val none (isV X)) (hd : d j = true) : u j = X := (hp.val j _ _ hj hd).1

/-- A call of two arguments that are known, with a result that is known. -/
theorem step_call2 {X Y R : Value} (f jx jy : Nat) (x y : Tmp) (ts : Array TypeId) (hf : Enters Tryz.prog f) (hit : it i = .val none (isV R)) (ho : o.op = .call { callee := .value (.func f), args := #[.tmp x, .tmp y], argTypes := ts })
    (hx : (jx, x) ∈ news) (hy : (jy, y) ∈ news) (hix : it jx = .val none (isV X)) (hiy : it jy = .val none (isV Y)) (hwx : waitsB o jx = true) (hwy : waitsB o jy = true)
    (hc : ∀ w, Calls Tryz.prog f #[X, Y] w fun e w' => e = .returned R ∧ Below w.heap.size w w') : StepOK Tryz.prog news olds it w0 i o := by
  unfold StepOK
  rw [hit]
  intro Q d u S w b K hp hdi hR hd hK
  obtain ⟨e1, h1, h2, h3⟩ := waits_of hwx
  obtain ⟨e2, h4, h5, h6⟩ := waits_of hwy
  have ux := isV_of hp hix (by rw [← h3]; exact hd e1 h1 h2)
  have uy := isV_of hp hiy (by rw [← h6]; exact hd e2 h4 h5)
  have ex := (hR.1 _ hx).trans ux
  have ey := (hR.1 _ hy).trans uy
  refine wp_call_fn f _ ts #[X, Y] hf ho (by simp only [List.map_toArray, List.map_cons, List.map_nil, ex, ey]) ((hc w).mono ?_)
  rintro e w' ⟨rfl, hb⟩
  exact ⟨R, rfl, hK.out R (fun _ => False) w' (grown_of_below0 hb _) rfl (fun _ h => h.elim)⟩

def zeroRes : Value := .agg #[.int .i64 0, .int .i64 0, .string ByteArray.empty, .slice none 0 0, .slice none 0 0, .slice none 0 0, .int .i64 0]
theorem run_zeroRes (w : World) : (zeroValue 29).run Tryz.prog w = .ok zeroRes w := by kernel_rfl
theorem size_res : (Tryz.prog.info? 29).map (·.size) = some 7 := by kernel_rfl
theorem step_res (hit : it i = .box 29 7) (ho : o.op = .alloc 29) : StepOK Tryz.prog news olds it w0 i o := by
  unfold StepOK
  rw [hit]
  exact ⟨zeroRes, rfl, ho, run_zeroRes⟩
theorem res_cells (c : VC) (e : Int) : ∃ cs, resVal c e = .agg cs ∧ cs.size = 7 ∧ cs.all (·.oneCell') = true := ⟨_, rfl, rfl, by simp [Value.oneCell']⟩
theorem step_put {c : VC} {e : Int} (b s : Nat) (x y : Tmp) (hit : it i = .put b s) (hb : it b = .box 29 7) (hs : it s = .val none (isV (resVal c e))) (ho : o.op = .store 29 (.tmp x) (.tmp y)) (hx : (b, x) ∈ news) (hy : (s, y) ∈ news) (hwb : waitsB o b = true) (hws : waitsB o s = true) (hd : o.dst = none) :
    StepOK Tryz.prog news olds it w0 i o := by
  unfold StepOK
  rw [hit]
  exact ⟨⟨_, _, none, _, hb, hs, fun v S w hv => by rw [hv]; exact res_cells c e⟩, waits_of hwb, waits_of hws, 29, x, y, ho, hx, hy, (fun t n h => by rw [hb] at h; cases h; exact size_res), hd⟩
end

/-- Two boxes of a Res each, each filled. -/
theorem plan_res {it : Nat → Item} {w0 : World} {u : Nat → Value} {S : Nat → Nat → Prop} {w : World} (hp : Plan it w0 (fun _ => true) u S w) {i b s : Nat} {c : VC} {e : Int} (hi : it i = .put b s) (hb : it b = .box 29 7) (hs : it s = .val none (isV (resVal c e))) :
    ∃ N, u b = .pointer (some ⟨N, 0, none⟩) ∧ w0.heap.size ≤ N ∧ ResBox w N c e := by
  obtain ⟨_, _, N, cs, t, h1, h2, _, h3⟩ := hp.put i b s hi rfl
  obtain ⟨N', cs', h4, h5, h6, h7⟩ := hp.box b _ _ hb rfl
  rw [h1] at h4; cases h4
  have h8 := isV_of hp hs rfl
  rw [h2] at h8
  rw [h3] at h6
  cases h6
  refine ⟨N, h1, h5, ?_⟩
  unfold resVal at h8
  cases h8
  exact h3
end Go.Proofs.YtbdciilkapgfjaaGreatDoor

namespace Go.Proofs.YtbdciilkapgfjaaGreatDoor
open Go.RowKit

/-- A Res that reads as a value. -/
def ResIs (j : J) : Value → (Nat → Prop) → World → Prop := fun v S w => ∃ c, v = resVal c 0 ∧ VR w S j c
theorem ResIs.st (j : J) : ∀ v S w w', ResIs j v S w → Same S w w' → ResIs j v S w' := fun _ _ _ _ ⟨c, e, hV⟩ hb => ⟨c, e, hV.go hb (fun _ h => h)⟩

section
variable {news : List (Nat × Tmp)} {olds : List (Tmp × Value)} {it : Nat → Item} {w0 : World} {i : Nat} {o : Oper}

/-- A call of one argument that is known, whose result reads as a value in new memory. -/
theorem step_call1 {X : Value} {j : J} (f jx : Nat) (x : Tmp) (ts : Array TypeId) (hf : Enters Tryz.prog f) (hit : it i = .val none (ResIs j)) (ho : o.op = .call { callee := .value (.func f), args := #[.tmp x], argTypes := ts })
    (hx : (jx, x) ∈ news) (hix : it jx = .val none (isV X)) (hwx : waitsB o jx = true)
    (hlow : ∀ j M φ, it j = .val M φ → M = none)
    (hc : ∀ w, Below w0.heap.size w0 w → Calls Tryz.prog f #[X] w fun e w' => ∃ c, e = .returned (resVal c 0) ∧ VR w' (New w.heap.size w') j c ∧ Below w.heap.size w w') : StepOK Tryz.prog news olds it w0 i o := by
  unfold StepOK
  rw [hit]
  intro Q d u S w b K hp hdi hR hd hK
  obtain ⟨e1, h1, h2, h3⟩ := waits_of hwx
  have ux := isV_of hp hix (by rw [← h3]; exact hd e1 h1 h2)
  have ex := (hR.1 _ hx).trans ux
  refine wp_call_fn f _ ts #[X] hf ho (by simp only [List.map_toArray, List.map_cons, List.map_nil, ex]) ((hc w (hp.low hlow)).mono ?_)
  rintro e w' ⟨c, rfl, hV, hb⟩
  exact ⟨_, rfl, hK.out _ (New w.heap.size w') w' (grown_of_below0 hb _) ⟨c, rfl, hV⟩ (fun b h => ⟨Or.inl h.1, h.2⟩)⟩

theorem step_put1 {j : J} (b s : Nat) (x y : Tmp) (hit : it i = .put b s) (hb : it b = .box 29 7) (hs : it s = .val none (ResIs j)) (ho : o.op = .store 29 (.tmp x) (.tmp y)) (hx : (b, x) ∈ news) (hy : (s, y) ∈ news) (hwb : waitsB o b = true) (hws : waitsB o s = true) (hd : o.dst = none) :
    StepOK Tryz.prog news olds it w0 i o := by
  unfold StepOK
  rw [hit]
  exact ⟨⟨_, _, none, _, hb, hs, fun v S w ⟨c, hv, _⟩ => by rw [hv]; exact res_cells c 0⟩, waits_of hwb, waits_of hws, 29, x, y, ho, hx, hy, (fun t n h => by rw [hb] at h; cases h; exact size_res), hd⟩
end

/-- A box of a Res that reads as a value. -/
theorem plan_res1 {it : Nat → Item} {w0 : World} {u : Nat → Value} {S : Nat → Nat → Prop} {w : World} (hp : Plan it w0 (fun _ => true) u S w) {i b s : Nat} {j : J} (hi : it i = .put b s) (hb : it b = .box 29 7) (hs : it s = .val none (ResIs j)) :
    ∃ N c, u b = .pointer (some ⟨N, 0, none⟩) ∧ w0.heap.size ≤ N ∧ ResBox w N c 0 ∧ VR w (S s) j c := by
  obtain ⟨_, _, N, cs, t, h1, h2, _, h3⟩ := hp.put i b s hi rfl
  obtain ⟨N', cs', h4, h5, h6, h7⟩ := hp.box b _ _ hb rfl
  rw [h1] at h4; cases h4
  obtain ⟨c, h8, hV⟩ := (hp.val s _ _ hs rfl).1
  rw [h2] at h8
  rw [h3] at h6
  cases h6
  unfold resVal at h8
  cases h8
  exact ⟨N, c, h1, h5, h3, hV⟩
end Go.Proofs.YtbdciilkapgfjaaGreatDoor

namespace Go.Proofs.YtbdciilkapgfjaaGreatDoor
open Go.RowKit

/-- An operation that runs to a value. -/
theorem wp_of_run {P : Program} {o : Oper} {a : Act} {w w' : World} {K : Act → World → Prop} {Q : Exit → Act → World → Prop} (v : Value) (h : (execOp a.eval o).run P w = .ok (.value v) w') (hk : K (a.put o.dst v) w') : o.wp P a w K Q := by
  unfold Oper.wp
  rw [h]
  exact hk

theorem listed_eq {listed : Array Bool} {n : Nat} {T : Nat → Bool} (hs : listed.size = n) (h : ∀ k, k < n → listed.getD k true = T k) : listed = ((List.range n).map T).toArray := by
  apply Array.ext
  · simp [hs]
  · intro i h1 h2
    have := h i (by omega)
    simp only [Array.getD, h1, dite_true] at this
    simp [← this]

/-- Three last operations, one behind the other; the middle one writes its slot alone. -/
theorem wpAny_three {P : Program} {ops : Array Oper} {Q : Exit → Act → World → Prop} {listed : Array Bool} {a a1 : Act} {w w1 w2 : World} (i j k : Nat) (oi oj ok : Oper) (hi : ops[i]? = some oi) (hj : ops[j]? = some oj) (hk : ops[k]? = some ok) (r1 : Region.ready .any ops listed = [i]) (r2 : Region.ready .any ops (listed.setIfInBounds i true) = [j])
    (r3 : Region.ready .any ops ((listed.setIfInBounds i true).setIfInBounds j true) = [k]) (r4 : Region.ready .any ops (((listed.setIfInBounds i true).setIfInBounds j true).setIfInBounds k true) = []) (gi : oi.guard = none) (gj : oj.guard = none) (gk : ok.guard = none)
    (h1 : ∀ K : Act → World → Prop, K a w1 → Oper.wp P oi a w K Q) (h2 : ∀ K : Act → World → Prop, K a1 w1 → Oper.wp P oj a w1 K Q) (h3 : ∀ K : Act → World → Prop, K a1 w2 → Oper.wp P ok a1 w1 K Q) (hq : Q .normal a1 w2) :
    ∀ fuel, 3 ≤ fuel → wpAny P .any ops Q fuel listed a w := by
  intro fuel hf
  obtain ⟨f, rfl⟩ : ∃ f, fuel = f + 3 := ⟨fuel - 3, by omega⟩
  have w1' : Region.wanted oi (yielded ops a.tmps) = true := by simp [Region.wanted, gi]
  have w2' : Region.wanted oj (yielded ops a.tmps) = true := by simp [Region.wanted, gj]
  have w3' : Region.wanted ok (yielded ops a1.tmps) = true := by simp [Region.wanted, gk]
  refine wpAny_all r1 (by simp) fun x hx => ?_
  obtain rfl : x = i := by simpa using hx
  unfold wpOp
  simp only [hi, w1', if_true]
  refine .inl (h1 _ (wpAny_all r2 (by simp) fun y hy => ?_))
  obtain rfl : y = j := by simpa using hy
  unfold wpOp
  simp only [hj, w2', if_true]
  refine .inl (h2 _ (wpAny_all r3 (by simp) fun z hz => ?_))
  obtain rfl : z = k := by simpa using hz
  unfold wpOp
  simp only [hk, w3', if_true]
  exact .inl (h3 _ (wpAny_done r4 hq f))

theorem wp_store_slice {P : Program} {o : Oper} {a : Act} {w : World} {K : Act → World → Prop} {Q : Exit → Act → World → Prop} (t : TypeId) (x y : Operand) (ho : o.op = .store t x y) (hd : o.dst = none) (ad : Addr) (p : Option Addr) (n c : Nat) (hx : a.eval x = .pointer (some ad)) (hy : a.eval y = .slice p n c)
    (hrun : (Instr.storeAt t (.pointer (some ad)) (.slice p n c)).run P w = .ok () (w.setCell ad (.slice p n c))) (h : K a (w.setCell ad (.slice p n c))) : o.wp P a w K Q := by
  unfold Oper.wp execOp
  simp only [ho, hx, hy, Sem.run_bind, hrun, Sem.run_pure, Result.andThen_ok]
  show K (a.put o.dst undef) _
  rw [hd]
  exact h

section
variable {news : List (Nat × Tmp)} {olds : List (Tmp × Value)} {it : Nat → Item} {w0 : World} {i : Nat} {o : Oper}

theorem run_fieldAddr (N off : Nat) {t : TypeId} {f : Nat} (hrun : ∀ w, (Instr.fieldAt t (.pointer (some ⟨N, 0, none⟩)) f).run Tryz.prog w = .ok (.pointer (some ⟨N, off, none⟩)) w) (x : Operand) (a : Act) (ho : o.op = .fieldAddr t x f) (hx : a.eval x = .pointer (some ⟨N, 0, none⟩)) (w : World) :
    (execOp a.eval o).run Tryz.prog w = .ok (.value (.pointer (some ⟨N, off, none⟩))) w := by
  unfold execOp
  simp only [ho, hx, Sem.run_bind, hrun, Sem.run_pure, Result.andThen_ok]

/-- The address of a field of a box that lay there. -/
theorem step_field {N off : Nat} (t : TypeId) (f : Nat) (x : Tmp) (hit : it i = .val none (isV (.pointer (some ⟨N, off, none⟩)))) (ho : o.op = .fieldAddr t (.tmp x) f) (hmem : (x, Value.pointer (some ⟨N, 0, none⟩)) ∈ olds)
    (hrun : ∀ w, (Instr.fieldAt t (.pointer (some ⟨N, 0, none⟩)) f).run Tryz.prog w = .ok (.pointer (some ⟨N, off, none⟩)) w) : StepOK Tryz.prog news olds it w0 i o := by
  unfold StepOK
  rw [hit]
  intro Q d u S w b K hp hdi hR hd hK
  exact wp_of_run _ (run_fieldAddr N off hrun _ b ho (hR.2 _ hmem) w) (hK.out _ (fun _ => False) _ (grown_of_below0 (Below.refl _ _) _) rfl (fun _ h => h.elim))

theorem step_move {v : Value} (x : Tmp) (hit : it i = .val none (isV v)) (ho : o.op = .move (.tmp x)) (hmem : (x, v) ∈ olds) : StepOK Tryz.prog news olds it w0 i o := by
  unfold StepOK
  rw [hit]
  intro Q d u S w b K hp hdi hR hd hK
  have hx := hR.2 _ hmem
  exact wp_of_run v (by unfold execOp; simp only [ho, hx]; rfl) (hK.out _ (fun _ => False) _ (grown_of_below0 (Below.refl _ _) _) rfl (fun _ h => h.elim))

/-- A cell of a block that lay there and that nobody writes. -/
theorem step_cell {a : Addr} {v : Value} (t : TypeId) (j : Nat) (x : Tmp) (hit : it i = .val none (isV v)) (ho : o.op = .load t (.tmp x)) (hx : (j, x) ∈ news) (hj : it j = .val none (isV (.pointer (some a)))) (hw : waitsB o j = true)
    (hc : w0.cell? a = some v) (hlt : a.block < w0.heap.size) (hN : ∀ j φ, it j ≠ .val (some a.block) φ) (hload : ∀ w, w.cell? a = some v → (Instr.loadAt t (.pointer (some a))).run Tryz.prog w = .ok v w) : StepOK Tryz.prog news olds it w0 i o := by
  unfold StepOK
  rw [hit]
  intro Q d u S w b K hp hdi hR hd hK
  obtain ⟨e1, h1, h2, h3⟩ := waits_of hw
  have ux := isV_of hp hj (by rw [← h3]; exact hd e1 h1 h2)
  have ex := (hR.1 _ hx).trans ux
  have hcw : w.cell? a = some v := (World.cell?_of_block (hp.block a.block hlt fun j φ hj => absurd hj (hN j φ))).trans hc
  exact wp_of_run v (by unfold execOp; simp only [ho, ex, Sem.run_bind, hload w hcw, Sem.run_pure, Result.andThen_ok]) (hK.out _ (fun _ => False) _ (grown_of_below0 (Below.refl _ _) _) rfl (fun _ h => h.elim))

/-- A slice of one element in a block of its own. -/
def OneSlice (cs : Array Value) (t : TypeId) : Value → (Nat → Prop) → World → Prop := fun v S w => ∃ N, v = .slice (some ⟨N, 0, none⟩) 1 1 ∧ S N ∧ w.heap[N]? = some (.cells cs t (0, 0))
theorem step_one {v : Value} {cs : Array Value} (T t : TypeId) (j : Nat) (x : Tmp) (hit : it i = .val none (OneSlice cs t)) (ho : o.op = .buildSlice T 1 #[(0, .tmp x)]) (hx : (j, x) ∈ news) (hj : it j = .val none (isV v)) (hw : waitsB o j = true)
    (hrun : ∀ w, (Instr.buildSlice T 1 #[(0, v)]).run Tryz.prog w = .ok (.slice (some ⟨w.heap.size, 0, none⟩) 1 1) (w.alloc (.cells cs t))) : StepOK Tryz.prog news olds it w0 i o := by
  unfold StepOK
  rw [hit]
  intro Q d u S w b K hp hdi hR hd hK
  obtain ⟨e1, h1, h2, h3⟩ := waits_of hw
  have ux := isV_of hp hj (by rw [← h3]; exact hd e1 h1 h2)
  have ex := (hR.1 _ hx).trans ux
  refine wp_of_run (w' := w.alloc (.cells cs t)) _ (by unfold execOp; simp only [ho, List.map_toArray, List.map_cons, List.map_nil, ex, Sem.run_bind, hrun w, Sem.run_pure, Result.andThen_ok]) (hK.out _ (fun b => b = w.heap.size) _ (World.grownBy_alloc _ _ _) ⟨w.heap.size, rfl, rfl, heap_alloc_new _ _⟩ (fun b h => ?_))
  subst h
  exact ⟨Or.inl (Nat.le_refl _), by simp⟩

theorem row_same {w w' : World} {base size n : Nat} {e : TypeId} {v : Value} {xs : List Value} (h : w.ownsRow base e size v n xs) (hs : ∀ g, v.ownBlock = some g → w'.heap[g]? = w.heap[g]?) : w'.ownsRow base e size v n xs := by
  refine ⟨h.1, ?_⟩
  rcases h.2 with hn | ⟨g, cap, cur, rfl, hb, hgg, rest⟩
  · exact .inl hn
  · exact .inr ⟨g, cap, cur, rfl, hb, (hs g rfl).trans hgg, rest⟩

/-- A row that a call owns, one longer. -/
def Longer (base : Nat) (e : TypeId) (size n : Nat) (xs : List Value) : Value → (Nat → Prop) → World → Prop := fun v S w => ∃ g cap, v = .slice (some ⟨g, 0, none⟩) n cap ∧ S g ∧ w.ownsRow base e size v n xs
theorem longer_stable {base size n : Nat} {e : TypeId} {xs : List Value} {v : Value} {S : Nat → Prop} {w w' : World} (h : Longer base e size n xs v S w) (hs : Same S w w') : Longer base e size n xs v S w' := by
  obtain ⟨g, cap, rfl, h1, h2⟩ := h
  exact ⟨g, cap, rfl, h1, row_same h2 (fun g' hg' => by cases hg'; exact hs g h1)⟩
theorem one_stable {cs : Array Value} {t : TypeId} {v : Value} {S : Nat → Prop} {w w' : World} (h : OneSlice cs t v S w) (hs : Same S w w') : OneSlice cs t v S w' := by
  obtain ⟨N, rfl, h1, h2⟩ := h
  exact ⟨N, rfl, h1, (hs N h1).trans h2⟩

/-- An append to a row that the call owns: the row is the only old block that it may write. -/
theorem step_app {kv : Value} {base size bytes n : Nat} {e : TypeId} {inf : TypeInfo} {z : Value} {xs : List Value} {cs : Array Value} (T : TypeId) (js jx : Nat) (s x : Tmp) (hit : it i = .val kv.ownBlock (Longer base e size (n + 1) (xs ++ cs.toList)))
    (ho : o.op = .call { callee := .builtin .append, args := #[.tmp s, .tmp x], argTypes := #[T, T] }) (hs : (js, s) ∈ news) (hx : (jx, x) ∈ news) (hjs : it js = .val none (isV kv)) (hjx : it jx = .val none (OneSlice cs e)) (hws : waitsB o js = true) (hwx : waitsB o jx = true)
    (hM : ∀ j φ b, it j = .val (some b) φ → kv.ownBlock = some b → j = i)
    (ht : Tryz.prog.underlying T = some (.slice e)) (hinf : Tryz.prog.info? e = some inf) (hz : inf.zero = some z) (hsize : inf.size = size) (hby : inf.bytes = bytes) (hzs : z.cells.size = size) (hsz : 0 < size)
    (hown : w0.ownsRow base e size kv n xs) (hcs : cs.toList.length = size) (hc1 : ∀ u ∈ cs.toList, u.oneCell' = true) (h63 : n + 1 ≤ maxLen) (hbytes : (n + 1) * bytes ≤ 140737488355328) (hbase : base ≤ w0.heap.size) : StepOK Tryz.prog news olds it w0 i o := by
  unfold StepOK
  rw [hit]
  intro Q d u S w b K hp hdi hR hd hK
  obtain ⟨e1, h1, h2, h3⟩ := waits_of hws
  obtain ⟨e2, h4, h5, h6⟩ := waits_of hwx
  have us := isV_of hp hjs (by rw [← h3]; exact hd e1 h1 h2)
  have es := (hR.1 _ hs).trans us
  have hdx : d jx = true := by rw [← h6]; exact hd e2 h4 h5
  obtain ⟨N, hN, _, hNb⟩ := (hp.val jx _ _ hjx hdx).1
  have ex := (hR.1 _ hx).trans hN
  have hown' : w.ownsRow base e size kv n xs := row_same hown fun g hg => hp.block g (hown.lt g hg).2 fun j φ hj => by rw [hM j φ g hj hg]; exact hdi
  refine wp_append_lies w (.tmp s) (.tmp x) T ho base e inf z size bytes ht hinf hz hsize hby hzs hsz kv n xs es hown' ⟨N, 0, none⟩ 1 1 cs.toList ex (by rw [Nat.one_mul]; exact hcs) (World.news_of_block hNb) hc1 (by omega) h63 hbytes (Nat.le_trans hbase hp.size) w.heap.size rfl ?_
  intro g cap w' hown1 hgrow hat hlt
  refine hK.out _ (fun b => b = g) w' hgrow ⟨g, cap, rfl, rfl, hown1⟩ (fun b hb => ?_)
  subst hb
  exact ⟨hat.elim (fun h => Or.inr h.symm) (fun h => Or.inl (by omega)), hlt⟩
end
end Go.Proofs.YtbdciilkapgfjaaGreatDoor

namespace Go.Proofs.YtbdciilkapgfjaaGreatDoor
open Go.RowKit

/-- The plan's closed facts: each operation waits for earlier ones alone, its guard among them, no slot is written twice, the slots are those that are named. -/
def planGB (ops : Array Oper) (n m : Nat) (news : List (Nat × Tmp)) (olds : List Tmp) : Bool :=
  decide (ops.size = n) && (ops.toList.zipIdx.all fun p => (match p.1.guard with | none => true | some (g, _) => waitsB p.1 g) && p.1.after.all fun e => !Region.binds .any e || decide (e.on < p.2)) && apartB ops.toList.zipIdx &&
  (news.all fun p => decide (p.2 < m) && (match ops[p.1]? with | some o => o.dst == some p.2 | none => false)) && (olds.all fun t => ops.toList.all fun o => o.dst != some t)

/-- A region that draws its order, some operations guarded, by a plan for the operations of T. -/
theorem plan_coreG {P : Program} {id : Nat} {ops : Array Oper} {Q : Exit → Act → World → Prop} {a : Act} {w : World} (nn m : Nat) (news : List (Nat × Tmp)) (olds : List (Tmp × Value)) (it : Nat → Item) (T : Nat → Bool) (hm : P.follows .mixedOrders = true)
    (hplan : planGB ops nn m news (olds.map (·.1)) = true) (hsize : a.tmps.size = m) (holds : ∀ p ∈ olds, a.eval (.tmp p.1) = p.2)
    (hst : ∀ i M φ, it i = .val M φ → ∀ v S w w', φ v S w → Same S w w' → φ v S w')
    (hM : ∀ i j φ ψ b, it i = .val (some b) φ → it j = .val (some b) ψ → i = j) (hMlt : ∀ i φ b, it i = .val (some b) φ → b < w.heap.size)
    (hlast : ((List.range nn).all fun i => T i || (List.range nn).all fun j => !T j || reachB ops nn i j) = true)
    (hguard : ∀ (i : Nat) (o : Oper) (g : Nat) (want : Bool), ops[i]? = some o → T i = true → o.guard = some (g, want) → it g = .val none (isV (.bool want)) ∧ ∃ t, (g, t) ∈ news)
    (hone : ∀ i j b s s', it i = .put b s → it j = .put b s' → i = j)
    (hrest : ∀ i, nn ≤ i ∨ T i = false → it i = .val none fun _ _ _ => True)
    (steps : ∀ i o, ops[i]? = some o → T i = true → StepOK P news olds it w i o)
    (fin : ∀ u S w', Plan it w (fun k => T k || decide (nn ≤ k)) u S w' → Reads news olds u (frameOf ops a u) → ∀ fuel listed, listed.size = nn → (∀ k, k < nn → listed.getD k true = T k) → unlisted listed.toList ≤ fuel → wpAny P .any ops Q fuel listed (frameOf ops a u) w') : (Code.region id ops true).wp P Q a w := by
  unfold planGB at hplan
  simp only [Bool.and_eq_true, decide_eq_true_eq] at hplan
  obtain ⟨⟨⟨⟨hn, hac⟩, hap⟩, hnews⟩, hol⟩ := hplan
  have hA := apart_of _ hap
  have hin : ∀ i o, ops[i]? = some o → (o, i) ∈ ops.toList.zipIdx := fun i o ho => by
    rw [List.mem_zipIdx_iff_getElem?]
    simpa using ho
  have hF : ∀ i o, ops[i]? = some o → ∀ u v, (frameOf ops a u).put o.dst v = frameOf ops a (upd u i v) := fun i o ho u v => frameL_step _ a u o i v hA (hin i o ho)
  have hg : ∀ i o, ops[i]? = some o → (match o.guard with | none => true | some (g, _) => waitsB o g) = true ∧ ∀ e ∈ o.after, Region.binds .any e = true → e.on < i := by
    intro i o ho
    have h2 := (List.all_eq_true.1 hac) _ (hin i o ho)
    rw [Bool.and_eq_true] at h2
    refine ⟨h2.1, fun e he hb => ?_⟩
    have h3 := (Array.all_eq_true_iff_forall_mem.1 h2.2) e he
    simpa [hb] using h3
  have hR : ∀ u, Reads news olds u (frameOf ops a u) := by
    intro u
    refine ⟨fun p hp => ?_, fun p hp => ?_⟩
    · have h1 := (List.all_eq_true.1 hnews) p hp
      simp only [Bool.and_eq_true, decide_eq_true_eq] at h1
      obtain ⟨h2, h3⟩ := h1
      split at h3
      · rename_i o ho
        exact frameL_new _ a u o p.1 p.2 hA (hin _ o ho) (by simpa using h3) (by rw [hsize]; exact h2)
      · cases h3
    · have h1 := (List.all_eq_true.1 hol) p.1 (List.mem_map.2 ⟨p, hp, rfl⟩)
      rw [← holds p hp]
      refine frameL_old _ a u p.1 fun q hq => ?_
      have h2 : q.1 ∈ ops.toList := by
        obtain ⟨o, i⟩ := q
        rw [List.mem_zipIdx_iff_getElem?] at hq
        exact List.mem_of_getElem? hq
      have h3 := (List.all_eq_true.1 h1) q.1 h2
      simpa using h3
  have hbs : ∀ j b' s', it j = .put b' s' → ∃ t n, it b' = .box t n := by
    intro j b' s' hj
    rcases Nat.lt_or_ge j ops.size with hlt | hge
    · cases hT : T j with
      | false => rw [hrest j (Or.inr hT)] at hj; cases hj
      | true =>
        obtain ⟨o, ho⟩ : ∃ o, ops[j]? = some o := ⟨ops[j], by simp [hlt]⟩
        have h := steps j o ho hT
        unfold StepOK at h
        rw [hj] at h
        obtain ⟨⟨t, n, M, φ, h1, _⟩, _⟩ := h
        exact ⟨t, n, h1⟩
    · rw [hrest j (Or.inl (by omega))] at hj; cases hj
  have hlast' : ∀ i o, ops[i]? = some o → T i = false → ∀ j, j < ops.size → T j = true → ∃ n, reachB ops n i j = true := by
    intro i o ho hTi j hj hTj
    have hi := (Array.getElem?_eq_some_iff.1 ho).1
    have h1 := (List.all_eq_true.1 hlast) i (List.mem_range.2 (by omega))
    rw [hTi, Bool.false_or] at h1
    have h2 := (List.all_eq_true.1 h1) j (List.mem_range.2 (by omega))
    rw [hTj, Bool.not_true, Bool.false_or] at h2
    exact ⟨nn, h2⟩
  have h0 : ∃ u0, frameOf ops a u0 = a := by
    refine ⟨fun i => (((ops[i]?).bind (·.dst)).map fun t => a.tmps.getD t undef).getD undef, frameL_self _ a _ fun p hp => ?_⟩
    obtain ⟨o, i⟩ := p
    rw [List.mem_zipIdx_iff_getElem?] at hp
    have ho : ops[i]? = some o := by simpa using hp
    simp [ho]
  obtain ⟨u0, hu0⟩ := h0
  rw [← hu0]
  refine wp_region_any hm (wpAny_of_steps T (fun d a1 w' => ∃ u S, a1 = frameOf ops a u ∧ Plan it w d u S w') (fun i o ho => (hg i o ho).2) hlast' ?_ ?_ _ _ _ _ (by simp) ?_ ?_ ?_ ?_)
  · rintro i o ho hTi d d' a1 w1 ⟨u, S, rfl, hp⟩ hdi hdeps hd'i hd'
    have h := steps i o ho hTi
    have hw : Region.wanted o (yielded ops (frameOf ops a u).tmps) = true := by
      unfold Region.wanted
      cases hgo : o.guard with
      | none => rfl
      | some gw =>
        obtain ⟨g, want⟩ := gw
        have h1 := (hg i o ho).1
        rw [hgo] at h1
        obtain ⟨e, he, hb, hon⟩ := waits_of h1
        have hdg : d g = true := by rw [← hon]; exact hdeps e he hb
        obtain ⟨h2, t, hmem⟩ := hguard i o g want ho hTi hgo
        have h3 : u g = .bool want := (hp.val g _ _ h2 hdg).1
        have h4 := (hR u).1 _ hmem
        have h5 := (List.all_eq_true.1 hnews) _ hmem
        simp only [Bool.and_eq_true, decide_eq_true_eq] at h5
        obtain ⟨h6, h7⟩ := h5
        split at h7
        · rename_i o' ho'
          have h8 : o'.dst = some t := by simpa using h7
          have h9 : (frameOf ops a u).tmps[t]? = some (.bool want) := by
            have hlt : t < (frameOf ops a u).tmps.size := by rw [frameOf_size, hsize]; exact h6
            have h10 : (frameOf ops a u).tmps.getD t undef = .bool want := by
              have : (frameOf ops a u).eval (.tmp t) = (frameOf ops a u).tmps.getD t undef := rfl
              rw [← this, h4, h3]
            simpa [hlt] using h10
          simp only [yielded, ho', Option.bind_some, h8, h9, beq_self_eq_true]
        · cases h7
    unfold wpOp
    simp only [ho, hw, if_true]
    refine .inl ?_
    unfold StepOK at h
    cases hi : it i with
    | val M φ =>
      rw [hi] at h
      exact h _ d u S w1 _ _ hp hdi (hR u) hdeps fun v S' w' hb hφ hS => ⟨upd u i v, upd S i S', hF i o ho u v, hp.step_val hd' hdi hd'i (fun k hk => upd_ne u v hk) hst hM hMlt hi hb (by rw [upd_same]; exact hφ) hS⟩
    | box t n =>
      rw [hi] at h
      obtain ⟨z, hn, hop, hz⟩ := h
      exact wp_alloc_box t z hop hz ⟨upd u i _, S, hF i o ho u _, hp.step_box hd' hdi hd'i (fun k hk => upd_ne u _ hk) hst hi hn (upd_same u i _)⟩
    | put b s =>
      rw [hi] at h
      obtain ⟨⟨t, n, M, φ, hb, hs, hag⟩, ⟨e1, he1, hb1, ho1⟩, ⟨e2, he2, hb2, ho2⟩, ty, x, y, hop, hx, hy, hinfo, hdst⟩ := h
      have hdb : d b = true := by rw [← ho1]; exact hdeps e1 he1 hb1
      have hds : d s = true := by rw [← ho2]; exact hdeps e2 he2 hb2
      obtain ⟨N, old, h1, h2, h3, h4⟩ := hp.box b t n hb hdb
      obtain ⟨cs, hcs, hsz, hone1⟩ := hag _ _ _ (hp.val s M φ hs hds).1
      refine wp_store_row ty (.tmp x) (.tmp y) hop N cs (((hR u).1 _ hx).trans h1) (((hR u).1 _ hy).trans hcs) t old h3 (by rw [hinfo t n hb, hsz]) (by omega) hone1 ?_
      exact ⟨upd u i undef, S, hF i o ho u undef, hp.step_put hd' hdi hd'i (fun k hk => upd_ne u _ hk) hst hi hb hdb hds h1 hcs hsz (fun j b' s' hj hjb => by subst hjb; exact hone j i b' s' s hj hi) hbs⟩
  · rintro d a1 w' hall ⟨u, S, rfl, hp⟩ fuel listed hsz hl hf
    have e : d = fun k => T k || decide (nn ≤ k) := funext fun k => by rw [hall k, hn]
    subst e
    exact fin u S w' hp (hR u) fuel listed (by omega) (fun k hk => hl k (by omega)) hf
  · simp [unlisted]
  · intro k o ho hk
    have := (Array.getElem?_eq_some_iff.1 ho).1
    simp [this] at hk
  · intro k hk _
    simp [hk]
  · refine ⟨u0, fun _ _ => False, rfl, ⟨rfl, rfl, rfl, Nat.le_refl _, fun _ _ _ => rfl, fun i M φ hi hd => ?_, fun i t n hi hd => ?_, fun i b s hi hd => ?_, fun i j t n t' n' hi _ hd _ _ => ?_, fun i M φ j t n N _ hj _ hd _ => ?_, fun i j M φ M' ψ hi _ hd _ _ b hb => hb.elim⟩⟩
    all_goals
      have hge : ∀ k, (Array.replicate ops.size false).getD k true = true → nn ≤ k := fun k hk => by
        rcases Nat.lt_or_ge k ops.size with h | h
        · simp [h] at hk
        · omega
    · have := hrest i (Or.inl (hge i hd))
      rw [hi] at this; cases this
      exact ⟨trivial, fun b hb => hb.elim⟩
    · have := hrest i (Or.inl (hge i hd))
      rw [hi] at this; cases this
    · have := hrest i (Or.inl (hge i hd))
      rw [hi] at this; cases this
    · have := hrest i (Or.inl (hge i hd))
      rw [hi] at this; cases this
    · have := hrest j (Or.inl (hge j hd))
      rw [hj] at this; cases this

/-- A region that draws its order, some operations guarded, each guard known to let them by. -/
theorem plan_regionG {P : Program} {id : Nat} {ops : Array Oper} {Q : Exit → Act → World → Prop} {a : Act} {w : World} (nn m : Nat) (news : List (Nat × Tmp)) (olds : List (Tmp × Value)) (it : Nat → Item) (hm : P.follows .mixedOrders = true)
    (hplan : planGB ops nn m news (olds.map (·.1)) = true) (hsize : a.tmps.size = m) (holds : ∀ p ∈ olds, a.eval (.tmp p.1) = p.2)
    (hst : ∀ i M φ, it i = .val M φ → ∀ v S w w', φ v S w → Same S w w' → φ v S w')
    (hnone : ∀ i M φ, it i = .val M φ → M = none)
    (hguard : ∀ (i : Nat) (o : Oper) (g : Nat) (want : Bool), ops[i]? = some o → o.guard = some (g, want) → it g = .val none (isV (.bool want)) ∧ ∃ t, (g, t) ∈ news)
    (hone : ∀ i j b s s', it i = .put b s → it j = .put b s' → i = j)
    (hrest : ∀ i, nn ≤ i → it i = .val none fun _ _ _ => True)
    (steps : ∀ i o, ops[i]? = some o → StepOK P news olds it w i o)
    (fin : ∀ u S w', Plan it w (fun _ => true) u S w' → Q .normal (frameOf ops a u) w') : (Code.region id ops true).wp P Q a w := by
  refine plan_coreG nn m news olds it (fun _ => true) hm hplan hsize holds hst (fun i _ φ _ b h _ => by have := hnone i _ φ h; cases this) (fun i φ b h => by have := hnone i _ φ h; cases this) (by simp) (fun i o g want ho _ hgo => hguard i o g want ho hgo) hone
    (fun i h => hrest i (h.elim (fun h => h) (fun h => by cases h))) (fun i o ho _ => steps i o ho) fun u S w' hp _ fuel listed hsz hl hf => ?_
  have hr : Region.ready .any ops listed = [] := by
    apply List.eq_nil_iff_forall_not_mem.2
    intro j hj
    obtain ⟨h0, o, ho, _⟩ := mem_ready.1 hj
    have hlt : j < nn := by
      rcases Nat.lt_or_ge j nn with h | h
      · exact h
      · simp [Array.getElem?_eq_none (show listed.size ≤ j by omega)] at h0
    rw [hl j hlt] at h0; cases h0
  exact wpAny_done hr (fin u S w' (by simpa using hp)) fuel

section
variable {news : List (Nat × Tmp)} {olds : List (Tmp × Value)} {it : Nat → Item} {w0 : World} {i : Nat} {o : Oper}

/-- An operation that runs to a value that is known, of operands that are. -/
theorem step_run {v : Value} (uses : List (Nat × Tmp × Value)) (hit : it i = .val none (isV v)) (hlow : ∀ j M φ, it j = .val M φ → M = none)
    (huse : ∀ p ∈ uses, (p.1, p.2.1) ∈ news ∧ it p.1 = .val none (isV p.2.2) ∧ waitsB o p.1 = true)
    (hrun : ∀ (b : Act) (w : World), (∀ p ∈ uses, b.eval (.tmp p.2.1) = p.2.2) → (∀ p ∈ olds, b.eval (.tmp p.1) = p.2) → Below w0.heap.size w0 w → (execOp b.eval o).run Tryz.prog w = .ok (.value v) w) : StepOK Tryz.prog news olds it w0 i o := by
  unfold StepOK
  rw [hit]
  intro Q d u S w b K hp hdi hR hd hK
  refine wp_of_run v (hrun b w (fun p hpu => ?_) hR.2 (hp.low hlow)) (hK.out _ (fun _ => False) _ (grown_of_below0 (Below.refl _ _) _) rfl (fun _ h => h.elim))
  obtain ⟨h1, h2, h3⟩ := huse p hpu
  obtain ⟨e1, h4, h5, h6⟩ := waits_of h3
  exact (hR.1 _ h1).trans (isV_of hp h2 (by rw [← h6]; exact hd e1 h4 h5))

/-- A call of known arguments that gives a value that is known. -/
theorem step_callV {v : Value} (f : FuncId) (xs : Array Operand) (ts : Array TypeId) (vs : Array Value) (uses : List (Nat × Tmp × Value)) (hf : Enters Tryz.prog f) (hit : it i = .val none (isV v)) (hlow : ∀ j M φ, it j = .val M φ → M = none)
    (ho : o.op = .call { callee := .value (.func f), args := xs, argTypes := ts })
    (huse : ∀ p ∈ uses, (p.1, p.2.1) ∈ news ∧ it p.1 = .val none (isV p.2.2) ∧ waitsB o p.1 = true)
    (hvs : ∀ b : Act, (∀ p ∈ uses, b.eval (.tmp p.2.1) = p.2.2) → (∀ p ∈ olds, b.eval (.tmp p.1) = p.2) → xs.map b.eval = vs)
    (hc : ∀ w, Below w0.heap.size w0 w → Calls Tryz.prog f vs w fun e w' => e = .returned v ∧ Below w.heap.size w w') : StepOK Tryz.prog news olds it w0 i o := by
  unfold StepOK
  rw [hit]
  intro Q d u S w b K hp hdi hR hd hK
  have hu : ∀ p ∈ uses, b.eval (.tmp p.2.1) = p.2.2 := fun p hpu => by
    obtain ⟨h1, h2, h3⟩ := huse p hpu
    obtain ⟨e1, h4, h5, h6⟩ := waits_of h3
    exact (hR.1 _ h1).trans (isV_of hp h2 (by rw [← h6]; exact hd e1 h4 h5))
  refine wp_call_fn f _ ts vs hf ho (hvs b hu hR.2) ((hc w (hp.low hlow)).mono ?_)
  rintro e w' ⟨rfl, hb⟩
  exact ⟨v, rfl, hK.out v (fun _ => False) w' (grown_of_below0 hb _) rfl (fun _ h => h.elim)⟩

/-- A call of known arguments whose result reads as a value in new memory. -/
theorem step_callR {j : J} (f : FuncId) (xs : Array Operand) (ts : Array TypeId) (vs : Array Value) (uses : List (Nat × Tmp × Value)) (hf : Enters Tryz.prog f) (hit : it i = .val none (ResIs j)) (hlow : ∀ j M φ, it j = .val M φ → M = none)
    (ho : o.op = .call { callee := .value (.func f), args := xs, argTypes := ts })
    (huse : ∀ p ∈ uses, (p.1, p.2.1) ∈ news ∧ it p.1 = .val none (isV p.2.2) ∧ waitsB o p.1 = true)
    (hvs : ∀ b : Act, (∀ p ∈ uses, b.eval (.tmp p.2.1) = p.2.2) → (∀ p ∈ olds, b.eval (.tmp p.1) = p.2) → xs.map b.eval = vs)
    (hc : ∀ w, Below w0.heap.size w0 w → Calls Tryz.prog f vs w fun e w' => ∃ c, e = .returned (resVal c 0) ∧ VR w' (New w.heap.size w') j c ∧ Below w.heap.size w w') : StepOK Tryz.prog news olds it w0 i o := by
  unfold StepOK
  rw [hit]
  intro Q d u S w b K hp hdi hR hd hK
  have hu : ∀ p ∈ uses, b.eval (.tmp p.2.1) = p.2.2 := fun p hpu => by
    obtain ⟨h1, h2, h3⟩ := huse p hpu
    obtain ⟨e1, h4, h5, h6⟩ := waits_of h3
    exact (hR.1 _ h1).trans (isV_of hp h2 (by rw [← h6]; exact hd e1 h4 h5))
  refine wp_call_fn f _ ts vs hf ho (hvs b hu hR.2) ((hc w (hp.low hlow)).mono ?_)
  rintro e w' ⟨c, rfl, hV, hb⟩
  exact ⟨_, rfl, hK.out _ (New w.heap.size w') w' (grown_of_below0 hb _) ⟨c, rfl, hV⟩ (fun b h => ⟨Or.inl h.1, h.2⟩)⟩

/-- A call of a Res that reads as a value and of a value that is known: its result is known. -/
theorem step_callRV {j : J} {Y R : Value} (f jx jy : Nat) (x y : Tmp) (ts : Array TypeId) (hf : Enters Tryz.prog f) (hit : it i = .val none (isV R)) (hlow : ∀ j M φ, it j = .val M φ → M = none) (ho : o.op = .call { callee := .value (.func f), args := #[.tmp x, .tmp y], argTypes := ts })
    (hx : (jx, x) ∈ news) (hy : (jy, y) ∈ news) (hix : it jx = .val none (ResIs j)) (hiy : it jy = .val none (isV Y)) (hwx : waitsB o jx = true) (hwy : waitsB o jy = true)
    (hc : ∀ w c S, Below w0.heap.size w0 w → VR w S j c → (∀ b, S b → b < w.heap.size) → Calls Tryz.prog f #[resVal c 0, Y] w fun e w' => e = .returned R ∧ Below w.heap.size w w') : StepOK Tryz.prog news olds it w0 i o := by
  unfold StepOK
  rw [hit]
  intro Q d u S w b K hp hdi hR hd hK
  obtain ⟨e1, h1, h2, h3⟩ := waits_of hwx
  obtain ⟨e2, h4, h5, h6⟩ := waits_of hwy
  obtain ⟨⟨c, hc1, hV⟩, hlt⟩ := hp.val jx _ _ hix (by rw [← h3]; exact hd e1 h1 h2)
  have uy := isV_of hp hiy (by rw [← h6]; exact hd e2 h4 h5)
  have ex := (hR.1 _ hx).trans hc1
  have ey := (hR.1 _ hy).trans uy
  refine wp_call_fn f _ ts #[resVal c 0, Y] hf ho (by simp only [List.map_toArray, List.map_cons, List.map_nil, ex, ey]) ((hc w c _ (hp.low hlow) hV (fun b hb => (hlt b hb).2)).mono ?_)
  rintro e w' ⟨rfl, hb⟩
  exact ⟨R, rfl, hK.out R (fun _ => False) w' (grown_of_below0 hb _) rfl (fun _ h => h.elim)⟩
end
end Go.Proofs.YtbdciilkapgfjaaGreatDoor

namespace Go.Proofs.YtbdciilkapgfjaaGreatDoor
open Go.RowKit

/-- What an operation is good for: a value that is known, a Res that reads as a value, a box of a Res, the store of such a one. -/
inductive Kn where
  | v (x : Value)
  | r (j : J)
  | box
  | put (b s : Nat)
def Kn.item : Kn → Item
  | .v x => .val none (isV x)
  | .r j => .val none (ResIs j)
  | .box => .box 29 7
  | .put b s => .put b s
def knIt (L : List Kn) : Nat → Item := fun i => match L[i]? with | some k => k.item | none => .val none fun _ _ _ => True
theorem knIt_st (L : List Kn) : ∀ i M φ, knIt L i = .val M φ → ∀ v S w w', φ v S w → Same S w w' → φ v S w' := by
  intro i M φ hi v S w w' h hb
  unfold knIt at hi
  split at hi
  · rename_i k _
    cases k with
    | v x => cases hi; exact h
    | r j => cases hi; exact ResIs.st j _ _ _ _ h hb
    | box => cases hi
    | put b s => cases hi
  · cases hi; trivial
theorem knIt_none (L : List Kn) : ∀ i M φ, knIt L i = .val M φ → M = none := by
  intro i M φ hi
  unfold knIt at hi
  split at hi
  · rename_i k _
    cases k <;> cases hi <;> rfl
  · cases hi; rfl
theorem knIt_rest (L : List Kn) (n : Nat) (h : L.length = n) : ∀ i, n ≤ i → knIt L i = .val none fun _ _ _ => True := by
  intro i hi
  unfold knIt
  rw [List.getElem?_eq_none (by omega)]
/-- Each box is filled once. -/
def Kn.toB : Kn → Option Nat | .put b _ => some b | _ => none
def onceB : List (Option Nat) → Bool
  | [] => true
  | none :: L => onceB L
  | some b :: L => !(L.any (· == some b)) && onceB L
theorem once_of : ∀ (L : List (Option Nat)), onceB L = true → ∀ (i j b : Nat), L[i]? = some (some b) → L[j]? = some (some b) → i = j
  | [], _, i, _, _, h, _ => by simp at h
  | none :: L, h, i, j, b, hi, hj => by
    cases i with
    | zero => simp at hi
    | succ i =>
      cases j with
      | zero => simp at hj
      | succ j => simp only [List.getElem?_cons_succ] at hi hj; rw [once_of L h i j b hi hj]
  | some c :: L, h, i, j, b, hi, hj => by
    simp only [onceB, Bool.and_eq_true, Bool.not_eq_true', List.any_eq_false, beq_iff_eq] at h
    cases i with
    | zero =>
      cases j with
      | zero => rfl
      | succ j =>
        simp only [List.getElem?_cons_zero, Option.some.injEq, List.getElem?_cons_succ] at hi hj
        subst hi
        exact absurd rfl (h.1 _ (List.mem_of_getElem? hj))
    | succ i =>
      cases j with
      | zero =>
        simp only [List.getElem?_cons_zero, Option.some.injEq, List.getElem?_cons_succ] at hi hj
        subst hj
        exact absurd rfl (h.1 _ (List.mem_of_getElem? hi))
      | succ j => simp only [List.getElem?_cons_succ] at hi hj; rw [once_of L h.2 i j b hi hj]
theorem knIt_one (L : List Kn) (h : onceB (L.map Kn.toB) = true) : ∀ i j b s s', knIt L i = .put b s → knIt L j = .put b s' → i = j := by
  have key : ∀ i b s, knIt L i = .put b s → (L.map Kn.toB)[i]? = some (some b) := by
    intro i b s hi
    unfold knIt at hi
    split at hi
    · rename_i k hk
      rw [List.getElem?_map, hk]
      cases k <;> cases hi
      rfl
    · cases hi
  intro i j b s s' hi hj
  exact once_of _ h i j b (key i b s hi) (key j b s' hj)

section
variable {news : List (Nat × Tmp)} {olds : List (Tmp × Value)} {it : Nat → Item} {w0 : World} {i : Nat} {o : Oper}

/-- An operation over slots that lay there. -/
theorem step_run0 {v : Value} (hit : it i = .val none (isV v)) (hlow : ∀ j M φ, it j = .val M φ → M = none)
    (hrun : ∀ (b : Act) (w : World), (∀ p ∈ olds, b.eval (.tmp p.1) = p.2) → Below w0.heap.size w0 w → (execOp b.eval o).run Tryz.prog w = .ok (.value v) w) : StepOK Tryz.prog news olds it w0 i o :=
  step_run [] hit hlow (fun p hp => by cases hp) (fun b w _ ho hb => hrun b w ho hb)
/-- An operation over one value that has come up. -/
theorem step_run1 {v X : Value} (j : Nat) (x : Tmp) (hit : it i = .val none (isV v)) (hlow : ∀ j M φ, it j = .val M φ → M = none) (hx : (j, x) ∈ news) (hix : it j = .val none (isV X)) (hw : waitsB o j = true)
    (hrun : ∀ (b : Act) (w : World), b.eval (.tmp x) = X → (∀ p ∈ olds, b.eval (.tmp p.1) = p.2) → Below w0.heap.size w0 w → (execOp b.eval o).run Tryz.prog w = .ok (.value v) w) : StepOK Tryz.prog news olds it w0 i o :=
  step_run [(j, x, X)] hit hlow (fun p hp => by obtain rfl := List.mem_singleton.1 hp; exact ⟨hx, hix, hw⟩) (fun b w hu ho hb => hrun b w (hu _ List.mem_cons_self) ho hb)
/-- An operation over two values that have come up. -/
theorem step_run2 {v X Y : Value} (j k : Nat) (x y : Tmp) (hit : it i = .val none (isV v)) (hlow : ∀ j M φ, it j = .val M φ → M = none) (hx : (j, x) ∈ news) (hix : it j = .val none (isV X)) (hw : waitsB o j = true)
    (hy : (k, y) ∈ news) (hiy : it k = .val none (isV Y)) (hwy : waitsB o k = true)
    (hrun : ∀ (b : Act) (w : World), b.eval (.tmp x) = X → b.eval (.tmp y) = Y → (∀ p ∈ olds, b.eval (.tmp p.1) = p.2) → Below w0.heap.size w0 w → (execOp b.eval o).run Tryz.prog w = .ok (.value v) w) : StepOK Tryz.prog news olds it w0 i o :=
  step_run [(j, x, X), (k, y, Y)] hit hlow (fun p hp => by
    rcases List.mem_cons.1 hp with rfl | hp
    · exact ⟨hx, hix, hw⟩
    · obtain rfl := List.mem_singleton.1 hp; exact ⟨hy, hiy, hwy⟩) (fun b w hu ho hb => hrun b w (hu _ List.mem_cons_self) (hu _ (List.mem_cons_of_mem _ List.mem_cons_self)) ho hb)

/-- A Res that lay in its box. -/
theorem step_loadR {c : VC} {e : Int} {N : Nat} (t : Tmp) (hit : it i = .val none (isV (resVal c e))) (ho : o.op = .load 29 (.tmp t)) (hmem : (t, Value.pointer (some ⟨N, 0, none⟩)) ∈ olds) (hb : ResBox w0 N c e) (hlow : ∀ j M φ, it j = .val M φ → M = none) : StepOK Tryz.prog news olds it w0 i o := by
  unfold StepOK
  rw [hit]
  intro Q d u S w b K hp hdi hR hd hK
  exact wp_load_row 29 (.tmp t) ho N (hR.2 _ hmem) 29 _ (0, 0) _ (hb.below (hp.low hlow) hb.lt) Tryz.underlying29 rfl size_res (hK.out _ (fun _ => False) _ (grown_of_below0 (Below.refl _ _) _) rfl (fun _ h => h.elim))
end
end Go.Proofs.YtbdciilkapgfjaaGreatDoor

namespace Go.Proofs.YtbdciilkapgfjaaGreatDoor
open Go.RowKit

theorem fieldRes0 (N : Nat) (w : World) : (Instr.fieldAt 29 (.pointer (some ⟨N, 0, none⟩)) 0).run Tryz.prog w = .ok (.pointer (some ⟨N, 0, none⟩)) w := by go_simp
theorem fieldRes1 (N : Nat) (w : World) : (Instr.fieldAt 29 (.pointer (some ⟨N, 0, none⟩)) 1).run Tryz.prog w = .ok (.pointer (some ⟨N, 6, none⟩)) w := by go_simp
theorem fieldVal0 (N : Nat) (w : World) : (Instr.fieldAt 26 (.pointer (some ⟨N, 0, none⟩)) 0).run Tryz.prog w = .ok (.pointer (some ⟨N, 0, none⟩)) w := by go_simp
theorem fieldVal3 (N : Nat) (w : World) : (Instr.fieldAt 26 (.pointer (some ⟨N, 0, none⟩)) 3).run Tryz.prog w = .ok (.pointer (some ⟨N, 3, none⟩)) w := by go_simp
theorem loadInt (N off : Nat) (v : Value) (w : World) (h : w.cell? ⟨N, off, none⟩ = some v) : (Instr.loadAt 3 (.pointer (some ⟨N, off, none⟩))).run Tryz.prog w = .ok v w := by go_simp
theorem loadKind (N off : Nat) (v : Value) (w : World) (h : w.cell? ⟨N, off, none⟩ = some v) : (Instr.loadAt 22 (.pointer (some ⟨N, off, none⟩))).run Tryz.prog w = .ok v w := by go_simp
theorem loadValues (N off : Nat) (v : Value) (w : World) (h : w.cell? ⟨N, off, none⟩ = some v) : (Instr.loadAt 23 (.pointer (some ⟨N, off, none⟩))).run Tryz.prog w = .ok v w := by go_simp

section
variable {news : List (Nat × Tmp)} {olds : List (Tmp × Value)} {it : Nat → Item} {w0 : World} {i : Nat} {o : Oper}

/-- The address of a field of what another operation has given. -/
theorem step_field1 {N off off' : Nat} (t : TypeId) (f : Nat) (j : Nat) (x : Tmp) (hit : it i = .val none (isV (.pointer (some ⟨N, off', none⟩)))) (ho : o.op = .fieldAddr t (.tmp x) f) (hlow : ∀ j M φ, it j = .val M φ → M = none)
    (hx : (j, x) ∈ news) (hix : it j = .val none (isV (.pointer (some ⟨N, off, none⟩)))) (hw : waitsB o j = true)
    (hrun : ∀ w, (Instr.fieldAt t (.pointer (some ⟨N, off, none⟩)) f).run Tryz.prog w = .ok (.pointer (some ⟨N, off', none⟩)) w) : StepOK Tryz.prog news olds it w0 i o :=
  step_run1 j x hit hlow hx hix hw fun b w e _ _ => by unfold execOp; simp only [ho, e, Sem.run_bind, hrun, Sem.run_pure, Result.andThen_ok]
/-- A cell that lay there, its address by another operation. -/
theorem step_load1 {a : Addr} {v : Value} (t : TypeId) (j : Nat) (x : Tmp) (hit : it i = .val none (isV v)) (ho : o.op = .load t (.tmp x)) (hlow : ∀ j M φ, it j = .val M φ → M = none) (hx : (j, x) ∈ news) (hix : it j = .val none (isV (.pointer (some a)))) (hw : waitsB o j = true)
    (hc : w0.cell? a = some v) (hlt : a.block < w0.heap.size) (hload : ∀ w, w.cell? a = some v → (Instr.loadAt t (.pointer (some a))).run Tryz.prog w = .ok v w) : StepOK Tryz.prog news olds it w0 i o :=
  step_run1 j x hit hlow hx hix hw fun b w e _ hb => by unfold execOp; simp only [ho, e, Sem.run_bind, hload w ((hb.cell hlt).trans hc), Sem.run_pure, Result.andThen_ok]
/-- A move of what another operation has given. -/
theorem step_move1 {v : Value} (j : Nat) (x : Tmp) (hit : it i = .val none (isV v)) (ho : o.op = .move (.tmp x)) (hlow : ∀ j M φ, it j = .val M φ → M = none) (hx : (j, x) ∈ news) (hix : it j = .val none (isV v)) (hw : waitsB o j = true) : StepOK Tryz.prog news olds it w0 i o :=
  step_run1 j x hit hlow hx hix hw fun b w e _ _ => by unfold execOp; simp only [ho, e]; rfl
theorem step_not {c : Bool} (t : TypeId) (j : Nat) (x : Tmp) (hit : it i = .val none (isV (.bool (!c)))) (ho : o.op = .unOp .not t (.tmp x)) (hlow : ∀ j M φ, it j = .val M φ → M = none) (hx : (j, x) ∈ news) (hix : it j = .val none (isV (.bool c))) (hw : waitsB o j = true) : StepOK Tryz.prog news olds it w0 i o :=
  step_run1 j x hit hlow hx hix hw fun b w e _ _ => by unfold execOp; simp only [ho, e]; rfl
/-- '||': the test ahead was false. -/
theorem step_or {c : Bool} (j k : Nat) (x y : Tmp) (hit : it i = .val none (isV (.bool c))) (ho : o.op = .pick (.tmp x) (.const (.bool true)) (.tmp y)) (hlow : ∀ j M φ, it j = .val M φ → M = none) (hx : (j, x) ∈ news) (hix : it j = .val none (isV (.bool false))) (hw : waitsB o j = true)
    (hy : (k, y) ∈ news) (hiy : it k = .val none (isV (.bool c))) (hwy : waitsB o k = true) : StepOK Tryz.prog news olds it w0 i o :=
  step_run2 j k x y hit hlow hx hix hw hy hiy hwy fun b w e e2 _ _ => by unfold execOp; simp only [ho, e, e2]; rfl
theorem step_neqC {a c : Int} {e : Bool} (t t' : TypeId) (ht : t = 3 ∨ t = 22) (j : Nat) (x : Tmp) (hit : it i = .val none (isV (.bool e))) (he : decide (a ≠ c) = e) (ho : o.op = .binOp .neq t (.tmp x) (.const (.int .i64 c)) t') (hlow : ∀ j M φ, it j = .val M φ → M = none) (hx : (j, x) ∈ news) (hix : it j = .val none (isV (.int .i64 a))) (hw : waitsB o j = true) : StepOK Tryz.prog news olds it w0 i o :=
  step_run1 j x hit hlow hx hix hw fun b w e1 _ _ => by
    have ec : b.eval (.const (.int .i64 c)) = .int .i64 c := rfl
    unfold execOp
    simp only [ho, e1, ec]
    rw [← he]
    rcases ht with rfl | rfl
    all_goals
      by_cases h : a = c
      · subst h; go_simp
      · go_simp
theorem step_neq {a c : Int} {e : Bool} (t t' : TypeId) (ht : t = 3 ∨ t = 22) (j k : Nat) (x y : Tmp) (hit : it i = .val none (isV (.bool e))) (he : decide (a ≠ c) = e) (ho : o.op = .binOp .neq t (.tmp x) (.tmp y) t') (hlow : ∀ j M φ, it j = .val M φ → M = none) (hx : (j, x) ∈ news) (hix : it j = .val none (isV (.int .i64 a))) (hw : waitsB o j = true)
    (hy : (k, y) ∈ news) (hiy : it k = .val none (isV (.int .i64 c))) (hwy : waitsB o k = true) : StepOK Tryz.prog news olds it w0 i o :=
  step_run2 j k x y hit hlow hx hix hw hy hiy hwy fun b w e1 e2 _ _ => by
    unfold execOp
    simp only [ho, e1, e2]
    rw [← he]
    rcases ht with rfl | rfl
    all_goals
      by_cases h : a = c
      · subst h; go_simp
      · go_simp
theorem step_len {a : Option Addr} {n c : Nat} (j : Nat) (x : Tmp) (hit : it i = .val none (isV (.int .i64 (n : Int)))) (ho : o.op = .call { callee := .builtin .len, args := #[.tmp x], argTypes := #[23] }) (hlow : ∀ j M φ, it j = .val M φ → M = none) (hx : (j, x) ∈ news) (hix : it j = .val none (isV (.slice a n c))) (hw : waitsB o j = true) : StepOK Tryz.prog news olds it w0 i o :=
  step_run1 j x hit hlow hx hix hw fun b w e _ _ => by
    unfold execOp
    simp only [ho, resolve, List.map_toArray, List.map_cons, List.map_nil, e]
    go_simp
/-- The address of an element. -/
theorem step_index {xb xo n c m : Nat} (j k : Nat) (x y : Tmp) (hm : m < n) (hit : it i = .val none (isV (.pointer (some ⟨xb, xo + m * 6, none⟩)))) (ho : o.op = .indexAddr 23 (.tmp x) (.tmp y)) (hlow : ∀ j M φ, it j = .val M φ → M = none) (hx : (j, x) ∈ news) (hix : it j = .val none (isV (.slice (some ⟨xb, xo, none⟩) n c))) (hw : waitsB o j = true)
    (hy : (k, y) ∈ news) (hiy : it k = .val none (isV (.int .i64 (m : Int)))) (hwy : waitsB o k = true) : StepOK Tryz.prog news olds it w0 i o :=
  step_run2 j k x y hit hlow hx hix hw hy hiy hwy fun b w e1 e2 _ _ => by
    unfold execOp
    simp only [ho, e1, e2]
    go_simp
theorem load_at6 {b o : Nat} {c : VC} {w : World} (h : At6 w b o c) : (Instr.loadAt 26 (.pointer (some ⟨b, o, none⟩))).run Tryz.prog w = .ok (VC.val c) w := by
  have h0 := h.c0; have h1 := h.c1; have h2 := h.c2; have h3 := h.c3; have h4 := h.c4; have h5 := h.c5
  unfold VC.val VC.arr
  go_simp
/-- A Value that lay in a row, its address by another operation. -/
theorem step_load6 {xb xo : Nat} {c : VC} (j : Nat) (x : Tmp) (hit : it i = .val none (isV (VC.val c))) (ho : o.op = .load 26 (.tmp x)) (hlow : ∀ j M φ, it j = .val M φ → M = none) (hx : (j, x) ∈ news) (hix : it j = .val none (isV (.pointer (some ⟨xb, xo, none⟩)))) (hw : waitsB o j = true)
    (hc : At6 w0 xb xo c) (hlt : xb < w0.heap.size) : StepOK Tryz.prog news olds it w0 i o :=
  step_run1 j x hit hlow hx hix hw fun b w e _ hb => by unfold execOp; simp only [ho, e, Sem.run_bind, load_at6 (hc.below hb hlt), Sem.run_pure, Result.andThen_ok]
theorem step_buildTrue (hit : it i = .val none (isV (VC.val {VC.nil with k := 2}))) (ho : o.op = .build 26 #[(0, .const (.int .i64 2))]) (hlow : ∀ j M φ, it j = .val M φ → M = none) : StepOK Tryz.prog news olds it w0 i o :=
  step_run0 hit hlow fun b w _ _ => by
    unfold execOp VC.val VC.arr VC.nil
    simp only [ho]
    go_simp
    rfl
/-- A move of what lay in a slot. -/
theorem step_move0 {v : Value} (x : Tmp) (hit : it i = .val none (isV v)) (ho : o.op = .move (.tmp x)) (hlow : ∀ j M φ, it j = .val M φ → M = none) (hmem : (x, v) ∈ olds) : StepOK Tryz.prog news olds it w0 i o :=
  step_run0 hit hlow fun b w ho' _ => by have e := ho' _ hmem; simp only at e; unfold execOp; simp only [ho, e]; rfl
end
end Go.Proofs.YtbdciilkapgfjaaGreatDoor
