/- A part of the proof. -/
import Derived.Test.YtbdciilkapgfjaaGreatDoorM13
namespace Go.Proofs.YtbdciilkapgfjaaGreatDoor
open Go.RowKit

/-- What an operation of a region that draws its order is good for: as Item, but a value may take over the blocks of another one (e), which is gone then. -/
inductive ItemE where
  | val (M e : Option Nat) (φ : Value → (Nat → Prop) → World → Prop)
  | box (t : TypeId) (n : Nat)
  | put (b s : Nat)

def StillE (it : Nat → ItemE) (d : Nat → Bool) (b : Nat) : Prop := ∀ j e φ, it j = .val (some b) e φ → d j = false
/-- Nothing has taken over item i. -/
def Live (it : Nat → ItemE) (d : Nat → Bool) (i : Nat) : Prop := ∀ k M φ, it k = .val M (some i) φ → d k = false

/-- The operations d have come up. -/
structure PlanE (it : Nat → ItemE) (w0 : World) (d : Nat → Bool) (u : Nat → Value) (S : Nat → Nat → Prop) (w : World) : Prop where
  os : w.os = w0.os
  tape : w.tape = w0.tape
  output : w.output = w0.output
  size : w0.heap.size ≤ w.heap.size
  block : ∀ b, b < w0.heap.size → StillE it d b → w.heap[b]? = w0.heap[b]?
  val : ∀ i M e φ, it i = .val M e φ → d i = true → Live it d i → φ (u i) (S i) w ∧ ∀ b, S i b → (w0.heap.size ≤ b ∨ some b = M) ∧ b < w.heap.size
  box : ∀ i t n, it i = .box t n → d i = true → ∃ N cs, u i = .pointer (some ⟨N, 0, none⟩) ∧ w0.heap.size ≤ N ∧ w.heap[N]? = some (.cells cs t (0, 0)) ∧ cs.size = n
  put : ∀ i b s, it i = .put b s → d i = true → d b = true ∧ d s = true ∧ ∃ N cs t, u b = .pointer (some ⟨N, 0, none⟩) ∧ u s = .agg cs ∧ w0.heap.size ≤ N ∧ w.heap[N]? = some (.cells cs t (0, 0))
  apart : ∀ i j t n t' n', it i = .box t n → it j = .box t' n' → d i = true → d j = true → i ≠ j → u i ≠ u j
  clear : ∀ i M e φ j t n N, it i = .val M e φ → it j = .box t n → d i = true → d j = true → Live it d i → u j = .pointer (some ⟨N, 0, none⟩) → ¬ S i N
  disj : ∀ i j M e φ M' e' ψ, it i = .val M e φ → it j = .val M' e' ψ → d i = true → d j = true → Live it d i → Live it d j → i ≠ j → ∀ b, S i b → ¬ S j b

theorem PlanE.low {it : Nat → ItemE} {w0 w : World} {d : Nat → Bool} {u : Nat → Value} {S : Nat → Nat → Prop} (hp : PlanE it w0 d u S w) (hn : ∀ j M e φ, it j = .val M e φ → M = none) : Below w0.heap.size w0 w :=
  ⟨hp.os, hp.tape, hp.output, hp.size, fun b hb => hp.block b hb fun j e φ hj => by cases hn j _ _ φ hj⟩

section
variable {it : Nat → ItemE} {w0 : World} {d d' : Nat → Bool} {u u' : Nat → Value} {S : Nat → Nat → Prop} {w w' : World} {i : Nat}
  (hp : PlanE it w0 d u S w) (hd : ∀ k, k ≠ i → d' k = d k) (hdi : d i = false) (hd1 : d' i = true) (hu : ∀ k, k ≠ i → u' k = u k)
  (hst : ∀ i M e φ, it i = .val M e φ → ∀ v S w w', φ v S w → Same S w w' → φ v S w')
  (hM : ∀ i j e e' φ ψ b, it i = .val (some b) e φ → it j = .val (some b) e' ψ → i = j) (hMlt : ∀ i e φ b, it i = .val (some b) e φ → b < w0.heap.size)
  (hE : ∀ i j M φ, it i = .val M (some j) φ → M = none ∧ ∃ e ψ, it j = .val none e ψ) (hbs : ∀ j b' s', it j = .put b' s' → ∃ t n, it b' = .box t n)
include hp hd hdi hd1 hu hst hM hMlt hE hbs

omit hp hst hM hMlt hE hbs in
theorem live_back {k : Nat} (h : Live it d' k) : Live it d k := fun j M φ hj => by
  by_cases e : j = i
  · subst e; exact hdi
  · rw [← hd j e]; exact h j M φ hj

/-- A value has come up. -/
theorem PlanE.step_val {M e : Option Nat} {row : Option Nat} {φ : Value → (Nat → Prop) → World → Prop} {S' : Nat → Prop} (hi : it i = .val M e φ) (he : ∀ j, e = some j → d j = true ∧ Live it d j) (hb : w.grownBy w' row)
    (hrow : ∀ b, row = some b → some b = M ∨ ∃ j, e = some j ∧ S j b) (hφ : φ (u' i) S' w') (hS : ∀ b, S' b → (w.heap.size ≤ b ∨ row = some b) ∧ b < w'.heap.size) :
    PlanE it w0 d' u' (upd S i S') w' := by
  have old : ∀ k, k ≠ i → d' k = true → d k = true := fun k hk h => by rw [← hd k hk]; exact h
  have lv : ∀ {k}, Live it d' k → Live it d k := fun h => live_back hd hdi hd1 hu h
  have neat : ∀ k, Live it d' k → ∀ j, e = some j → k ≠ j := fun k hk j hj ekj => by
    subst ekj hj
    have := hk i M φ hi
    rw [hd1] at this; cases this
  have newEat : ∀ j, e = some j → ∀ b, S j b → w0.heap.size ≤ b := fun j hj b hb => by
    subst hj
    obtain ⟨_, e', ψ, hj⟩ := hE i j M φ hi
    obtain ⟨h1, h2⟩ := he j rfl
    have := ((hp.val j none e' ψ hj h1 h2).2 b hb).1
    simpa using this
  have rowNot : ∀ k ψ M' e', it k = .val M' e' ψ → k ≠ i → d k = true → Live it d' k → ∀ b, S k b → row ≠ some b := fun k ψ M' e' hk hne hdk hlk b hSb hr => by
    obtain ⟨h1, _⟩ := (hp.val k M' e' ψ hk hdk (lv hlk)).2 b hSb
    rcases hrow b hr with h | ⟨j, hj, hSj⟩
    · subst h
      have := hMlt i e φ b hi
      rcases h1 with h1 | h1
      · omega
      · subst h1; exact hne (hM k i e' e ψ φ b hk hi)
    · have hkj := neat k hlk j hj
      subst hj
      obtain ⟨_, e2, ψ2, hj⟩ := hE i j M φ hi
      obtain ⟨h2, h3⟩ := he j rfl
      exact hp.disj k j M' e' ψ none e2 ψ2 hk hj hdk h2 (lv hlk) h3 hkj b hSb hSj
  have rowBox : ∀ j t n N, it j = .box t n → d j = true → u j = .pointer (some ⟨N, 0, none⟩) → w0.heap.size ≤ N → row ≠ some N := fun j t n N hj hdj hN hN0 hr => by
    rcases hrow N hr with h | ⟨k, hk, hSk⟩
    · subst h; have := hMlt i e φ N hi; omega
    · subst hk
      obtain ⟨_, e2, ψ2, hk⟩ := hE i k M φ hi
      obtain ⟨h2, h3⟩ := he k rfl
      exact hp.clear k none e2 ψ2 j t n N hk hj h2 hdj h3 hN hSk
  have S'new : ∀ b, S' b → w0.heap.size ≤ b ∨ some b = M := fun b hb' => by
    rcases (hS b hb').1 with h | h
    · exact Or.inl (Nat.le_trans hp.size h)
    · rcases hrow b h with h | ⟨j, hj, hSj⟩
      · exact Or.inr h
      · exact Or.inl (newEat j hj b hSj)
  refine ⟨hb.os.trans hp.os, hb.tape.trans hp.tape, hb.output.trans hp.output, Nat.le_trans hp.size hb.size, fun b hlt hstill => ?_, fun k M' e' ψ hk hdk hlk => ?_, fun k t n hk hdk => ?_, fun k b s hk hdk => ?_, fun k j t n t' n' hk hj hdk hdj hne => ?_, fun k M' e' ψ j t n N hk hj hdk hdj hlk hN => ?_, fun k j M1 e1 φ1 M2 e2 φ2 hk hj hdk hdj hlk hlj hne => ?_⟩
  · have h1 : StillE it d b := fun j e' ψ hj => by
      by_cases eq : j = i
      · subst eq; exact hdi
      · rw [← hd j eq]; exact hstill j e' ψ hj
    refine (hb.block b (Nat.lt_of_lt_of_le hlt hp.size) fun eq => ?_).trans (hp.block b hlt h1)
    rcases hrow b eq.symm with h | ⟨j, hj, hSj⟩
    · subst h
      have := hstill i e φ hi
      rw [hd1] at this; cases this
    · have := newEat j hj b hSj; omega
  · by_cases eq : k = i
    · subst eq
      rw [hi] at hk; cases hk
      rw [upd_same]
      exact ⟨hφ, fun b hb' => ⟨S'new b hb', (hS b hb').2⟩⟩
    · rw [upd_ne S S' eq, hu k eq]
      obtain ⟨h1, h2⟩ := hp.val k M' e' ψ hk (old k eq hdk) (lv hlk)
      exact ⟨hst k M' e' ψ hk _ _ _ _ h1 (fun b hb' => hb.block b (h2 b hb').2 (Ne.symm (rowNot k ψ M' e' hk eq (old k eq hdk) hlk b hb'))), fun b hb' => ⟨(h2 b hb').1, Nat.lt_of_lt_of_le (h2 b hb').2 hb.size⟩⟩
  · have eq : k ≠ i := by intro eq; subst eq; rw [hi] at hk; cases hk
    obtain ⟨N, cs, h1, h2, h3, h4⟩ := hp.box k t n hk (old k eq hdk)
    exact ⟨N, cs, by rw [hu k eq]; exact h1, h2, (hb.block N (lt_of_heap h3) (Ne.symm (rowBox k t n N hk (old k eq hdk) h1 h2))).trans h3, h4⟩
  · have eq : k ≠ i := by intro eq; subst eq; rw [hi] at hk; cases hk
    obtain ⟨hb1, hs1, N, cs, t, h1, h2, hN0, h3⟩ := hp.put k b s hk (old k eq hdk)
    have eb : b ≠ i := by intro eq; rw [eq, hdi] at hb1; cases hb1
    have es : s ≠ i := by intro eq; rw [eq, hdi] at hs1; cases hs1
    refine ⟨by rw [hd b eb]; exact hb1, by rw [hd s es]; exact hs1, N, cs, t, by rw [hu b eb]; exact h1, by rw [hu s es]; exact h2, hN0, (hb.block N (lt_of_heap h3) (fun er => ?_)).trans h3⟩
    obtain ⟨t', n', hbx⟩ := hbs k b s hk
    exact rowBox b t' n' N hbx hb1 h1 hN0 er.symm
  · have eq : k ≠ i := by intro eq; subst eq; rw [hi] at hk; cases hk
    have eq' : j ≠ i := by intro eq; subst eq; rw [hi] at hj; cases hj
    rw [hu k eq, hu j eq']
    exact hp.apart k j t n t' n' hk hj (old k eq hdk) (old j eq' hdj) hne
  · have eq' : j ≠ i := by intro eq; subst eq; rw [hi] at hj; cases hj
    rw [hu j eq'] at hN
    by_cases eq : k = i
    · subst eq
      rw [upd_same]
      intro hSN
      obtain ⟨N', cs, h1, h2, h3, h4⟩ := hp.box j t n hj (old j eq' hdj)
      rw [hN] at h1; cases h1
      have h5 := lt_of_heap h3
      rcases (hS N hSN).1 with h6 | h6
      · omega
      · exact rowBox j t n N hj (old j eq' hdj) hN h2 h6
    · rw [upd_ne S S' eq]
      exact hp.clear k M' e' ψ j t n N hk hj (old k eq hdk) (old j eq' hdj) (lv hlk) hN
  · have one : ∀ (j : Nat) (M2 e2 : Option Nat) (φ2 : Value → (Nat → Prop) → World → Prop), j ≠ i → it j = .val M2 e2 φ2 → d' j = true → Live it d' j → ∀ b, S' b → ¬ S j b := fun j M2 e2 φ2 eq' hj hdj hlj b hb1 hb2 => by
      obtain ⟨h1, h2⟩ := (hp.val j M2 e2 φ2 hj (old j eq' hdj) (lv hlj)).2 b hb2
      rcases (hS b hb1).1 with h3 | h3
      · omega
      · exact rowNot j φ2 M2 e2 hj eq' (old j eq' hdj) hlj b hb2 h3
    by_cases eq : k = i
    · subst eq
      have eq' : j ≠ k := Ne.symm hne
      rw [upd_same, upd_ne S S' eq']
      exact one j M2 e2 φ2 eq' hj hdj hlj
    · by_cases eq' : j = i
      · subst eq'
        rw [upd_same, upd_ne S S' eq]
        exact fun b h1 h2 => one k M1 e1 φ1 eq hk hdk hlk b h2 h1
      · rw [upd_ne S S' eq, upd_ne S S' eq']
        exact hp.disj k j M1 e1 φ1 M2 e2 φ2 hk hj (old k eq hdk) (old j eq' hdj) (lv hlk) (lv hlj) hne

omit hM hMlt hE hbs in
/-- A box has been made. -/
theorem PlanE.step_box {t : TypeId} {n : Nat} {cs : Array Value} (hi : it i = .box t n) (hn : cs.size = n) (hui : u' i = .pointer (some ⟨w.heap.size, 0, none⟩)) :
    PlanE it w0 d' u' S (w.alloc (.cells cs t)) := by
  have hb : Below w.heap.size w (w.alloc (.cells cs t)) := (Below.refl _ _).alloc (Nat.le_refl _) _
  have old : ∀ k, k ≠ i → d' k = true → d k = true := fun k hk h => by rw [← hd k hk]; exact h
  have lv : ∀ {k}, Live it d' k → Live it d k := fun h => live_back hd hdi hd1 hu h
  have bl : ∀ j t n N, it j = .box t n → d j = true → u j = .pointer (some ⟨N, 0, none⟩) → N < w.heap.size := fun j t n N hj hdj hN => by
    obtain ⟨N', cs, h1, h2, h3, h4⟩ := hp.box j t n hj hdj
    rw [hN] at h1; cases h1
    exact lt_of_heap h3
  refine ⟨hp.os, hp.tape, hp.output, Nat.le_trans hp.size hb.size, fun b hlt hstill => ?_, fun k M' e' ψ hk hdk hlk => ?_, fun k t' n' hk hdk => ?_, fun k b s hk hdk => ?_, fun k j t1 n1 t2 n2 hk hj hdk hdj hne => ?_, fun k M' e' ψ j t1 n1 N hk hj hdk hdj hlk hN => ?_, fun k j M1 e1 φ1 M2 e2 φ2 hk hj hdk hdj hlk hlj hne => ?_⟩
  · refine (hb.block b (Nat.lt_of_lt_of_le hlt hp.size)).trans (hp.block b hlt fun j e' ψ hj => ?_)
    have e : j ≠ i := by intro e; subst e; rw [hi] at hj; cases hj
    rw [← hd j e]; exact hstill j e' ψ hj
  · have e : k ≠ i := by intro e; subst e; rw [hi] at hk; cases hk
    rw [hu k e]
    obtain ⟨h1, h2⟩ := hp.val k M' e' ψ hk (old k e hdk) (lv hlk)
    exact ⟨hst k M' e' ψ hk _ _ _ _ h1 (fun b hb' => hb.block b (h2 b hb').2), fun b hb' => ⟨(h2 b hb').1, Nat.lt_of_lt_of_le (h2 b hb').2 hb.size⟩⟩
  · by_cases e : k = i
    · subst e
      rw [hi] at hk; cases hk
      exact ⟨_, cs, hui, hp.size, heap_alloc_new _ _, hn⟩
    · obtain ⟨N, cs', h1, h2, h3, h4⟩ := hp.box k t' n' hk (old k e hdk)
      exact ⟨N, cs', by rw [hu k e]; exact h1, h2, (hb.block N (lt_of_heap h3)).trans h3, h4⟩
  · have e : k ≠ i := by intro e; subst e; rw [hi] at hk; cases hk
    obtain ⟨hb1, hs1, N, cs, t, h1, h2, hN0, h3⟩ := hp.put k b s hk (old k e hdk)
    have eb : b ≠ i := by intro e; rw [e, hdi] at hb1; cases hb1
    have es : s ≠ i := by intro e; rw [e, hdi] at hs1; cases hs1
    exact ⟨by rw [hd b eb]; exact hb1, by rw [hd s es]; exact hs1, N, cs, t, by rw [hu b eb]; exact h1, by rw [hu s es]; exact h2, hN0, (hb.block N (lt_of_heap h3)).trans h3⟩
  · by_cases e : k = i
    · subst e
      have eq' : j ≠ k := Ne.symm hne
      rw [hui, hu j eq']
      intro h
      have := bl j t2 n2 _ hj (old j eq' hdj) h.symm
      omega
    · by_cases eq' : j = i
      · subst eq'
        rw [hui, hu k e]
        intro h
        have := bl k t1 n1 _ hk (old k e hdk) h
        omega
      · rw [hu k e, hu j eq']
        exact hp.apart k j t1 n1 t2 n2 hk hj (old k e hdk) (old j eq' hdj) hne
  · have e : k ≠ i := by intro e; subst e; rw [hi] at hk; cases hk
    obtain ⟨h1, h2⟩ := hp.val k M' e' ψ hk (old k e hdk) (lv hlk)
    by_cases eq' : j = i
    · subst eq'
      rw [hui] at hN; cases hN
      intro hS
      have := (h2 _ hS).2
      omega
    · rw [hu j eq'] at hN
      exact hp.clear k M' e' ψ j t1 n1 N hk hj (old k e hdk) (old j eq' hdj) (lv hlk) hN
  · have e : k ≠ i := by intro e; subst e; rw [hi] at hk; cases hk
    have eq' : j ≠ i := by intro e; subst e; rw [hi] at hj; cases hj
    exact hp.disj k j M1 e1 φ1 M2 e2 φ2 hk hj (old k e hdk) (old j eq' hdj) (lv hlk) (lv hlj) hne

omit hM hMlt hE in
/-- A value has been stored into its box. -/
theorem PlanE.step_put {b s N : Nat} {cs : Array Value} {t : TypeId} {n : Nat} (hi : it i = .put b s) (hbx : it b = .box t n) (hdb : d b = true) (hds : d s = true) (hub : u b = .pointer (some ⟨N, 0, none⟩)) (hus : u s = .agg cs) (hn : cs.size = n)
    (hone : ∀ j b' s', it j = .put b' s' → b' = b → j = i) : PlanE it w0 d' u' S (w.setRow N cs) := by
  obtain ⟨N', old', h1, h2, h3, h4⟩ := hp.box b t n hbx hdb
  rw [hub] at h1; cases h1
  have oth : ∀ k, k ≠ N → (w.setRow N cs).heap[k]? = w.heap[k]? := fun k hk => setRow_other w N k cs hk
  have hsz : (w.setRow N cs).heap.size = w.heap.size := size_setRow w N cs
  have old : ∀ k, k ≠ i → d' k = true → d k = true := fun k hk h => by rw [← hd k hk]; exact h
  have lv : ∀ {k}, Live it d' k → Live it d k := fun h => live_back hd hdi hd1 hu h
  refine ⟨hp.os, hp.tape, hp.output, by rw [hsz]; exact hp.size, fun b' hlt hstill => ?_, fun k M' e' ψ hk hdk hlk => ?_, fun k t' n' hk hdk => ?_, fun k b' s' hk hdk => ?_, fun k j t1 n1 t2 n2 hk hj hdk hdj hne => ?_, fun k M' e' ψ j t1 n1 N' hk hj hdk hdj hlk hN => ?_, fun k j M1 e1 φ1 M2 e2 φ2 hk hj hdk hdj hlk hlj hne => ?_⟩
  · refine (oth b' (by omega)).trans (hp.block b' hlt fun j e' ψ hj => ?_)
    have e : j ≠ i := by intro e; subst e; rw [hi] at hj; cases hj
    rw [← hd j e]; exact hstill j e' ψ hj
  · have e : k ≠ i := by intro e; subst e; rw [hi] at hk; cases hk
    rw [hu k e]
    obtain ⟨h5, h6⟩ := hp.val k M' e' ψ hk (old k e hdk) (lv hlk)
    have hc := hp.clear k M' e' ψ b t n N hk hbx (old k e hdk) hdb (lv hlk) hub
    exact ⟨hst k M' e' ψ hk _ _ _ _ h5 (fun b hb' => oth b (by intro e; subst e; exact hc hb')), fun b hb' => by rw [hsz]; exact h6 b hb'⟩
  · have e : k ≠ i := by intro e; subst e; rw [hi] at hk; cases hk
    obtain ⟨N', cs', h5, h6, h7, h8⟩ := hp.box k t' n' hk (old k e hdk)
    by_cases ek : k = b
    · subst ek
      rw [hbx] at hk; cases hk
      rw [hub] at h5; cases h5
      exact ⟨N, cs, by rw [hu k e]; exact hub, h6, setRow_heap w N old' cs t (0, 0) h3, hn⟩
    · have hne : N' ≠ N := by
        intro e2; subst e2
        exact hp.apart k b t' n' t n hk hbx (old k e hdk) hdb ek (by rw [h5, hub])
      exact ⟨N', cs', by rw [hu k e]; exact h5, h6, (oth N' hne).trans h7, h8⟩
  · by_cases e : k = i
    · subst e
      rw [hi] at hk; cases hk
      have eb : b ≠ k := by intro e; rw [e, hdi] at hdb; cases hdb
      have es : s ≠ k := by intro e; rw [e, hdi] at hds; cases hds
      exact ⟨by rw [hd b eb]; exact hdb, by rw [hd s es]; exact hds, N, cs, t, by rw [hu b eb]; exact hub, by rw [hu s es]; exact hus, h2, setRow_heap w N old' cs t (0, 0) h3⟩
    · obtain ⟨hb1, hs1, N', cs', t', h5, h6, hN0, h7⟩ := hp.put k b' s' hk (old k e hdk)
      have eb : b' ≠ i := by intro e; rw [e, hdi] at hb1; cases hb1
      have es : s' ≠ i := by intro e; rw [e, hdi] at hs1; cases hs1
      obtain ⟨t'', n'', hbx'⟩ := hbs k b' s' hk
      have hne : N' ≠ N := by
        intro e2; subst e2
        refine hp.apart b' b t'' n'' t n hbx' hbx hb1 hdb ?_ (by rw [h5, hub])
        intro e3
        exact e (hone k b' s' hk e3)
      exact ⟨by rw [hd b' eb]; exact hb1, by rw [hd s' es]; exact hs1, N', cs', t', by rw [hu b' eb]; exact h5, by rw [hu s' es]; exact h6, hN0, (oth N' hne).trans h7⟩
  · have e : k ≠ i := by intro e; subst e; rw [hi] at hk; cases hk
    have eq' : j ≠ i := by intro e; subst e; rw [hi] at hj; cases hj
    rw [hu k e, hu j eq']
    exact hp.apart k j t1 n1 t2 n2 hk hj (old k e hdk) (old j eq' hdj) hne
  · have e : k ≠ i := by intro e; subst e; rw [hi] at hk; cases hk
    have eq' : j ≠ i := by intro e; subst e; rw [hi] at hj; cases hj
    rw [hu j eq'] at hN
    exact hp.clear k M' e' ψ j t1 n1 N' hk hj (old k e hdk) (old j eq' hdj) (lv hlk) hN
  · have e : k ≠ i := by intro e; subst e; rw [hi] at hk; cases hk
    have eq' : j ≠ i := by intro e; subst e; rw [hi] at hj; cases hj
    exact hp.disj k j M1 e1 φ1 M2 e2 φ2 hk hj (old k e hdk) (old j eq' hdj) (lv hlk) (lv hlj) hne
end

/-- What is to be shown of operation i. -/
def StepOKE (P : Program) (news : List (Nat × Tmp)) (olds : List (Tmp × Value)) (it : Nat → ItemE) (w0 : World) (i : Nat) (o : Oper) : Prop :=
  match it i with
  | .val M e φ => (∀ j, e = some j → ∀ d : Nat → Bool, (∀ e ∈ o.after, Region.binds .any e = true → d e.on = true) → d j = true) ∧ ∀ Q d u S w b K, PlanE it w0 d u S w → d i = false → Reads news olds u b → (∀ e ∈ o.after, Region.binds .any e = true → d e.on = true) → (∀ j, e = some j → d j = true ∧ Live it d j) →
      Hid (∀ v S' w' row, w.grownBy w' row → (∀ b, row = some b → some b = M ∨ ∃ j, e = some j ∧ S j b) → φ v S' w' → (∀ b, S' b → (w.heap.size ≤ b ∨ row = some b) ∧ b < w'.heap.size) → K (b.put o.dst v) w') → Oper.wp P o b w K Q
  | .box t n => ∃ z, z.cells.size = n ∧ o.op = .alloc t ∧ ∀ w, (zeroValue t).run P w = .ok z w
  | .put b s => (∃ t n M e φ, it b = .box t n ∧ it s = .val M e φ ∧ (∀ k M φ, it k ≠ .val M (some s) φ) ∧ (∀ v S w, φ v S w → ∃ cs, v = .agg cs ∧ cs.size = n ∧ cs.all (·.oneCell') = true)) ∧ (∃ e ∈ o.after, Region.binds .any e = true ∧ e.on = b) ∧ (∃ e ∈ o.after, Region.binds .any e = true ∧ e.on = s) ∧
    ∃ ty x y, o.op = .store ty (.tmp x) (.tmp y) ∧ (b, x) ∈ news ∧ (s, y) ∈ news ∧ (∀ t n, it b = .box t n → (P.info? ty).map (·.size) = some n) ∧ o.dst = none

/-- A region that draws its order, some operations guarded, by a plan for the operations of T. -/
theorem planE_core {P : Program} {id : Nat} {ops : Array Oper} {Q : Exit → Act → World → Prop} {a : Act} {w : World} (nn m : Nat) (news : List (Nat × Tmp)) (olds : List (Tmp × Value)) (it : Nat → ItemE) (T : Nat → Bool) (hm : P.follows .mixedOrders = true)
    (hplan : planGB ops nn m news (olds.map (·.1)) = true) (hsize : a.tmps.size = m) (holds : ∀ p ∈ olds, a.eval (.tmp p.1) = p.2)
    (hst : ∀ i M e φ, it i = .val M e φ → ∀ v S w w', φ v S w → Same S w w' → φ v S w')
    (hM : ∀ i j e e' φ ψ b, it i = .val (some b) e φ → it j = .val (some b) e' ψ → i = j) (hMlt : ∀ i e φ b, it i = .val (some b) e φ → b < w.heap.size)
    (hE : ∀ i j M φ, it i = .val M (some j) φ → M = none ∧ ∃ e ψ, it j = .val none e ψ) (hE1 : ∀ i k j M M' φ ψ, it i = .val M (some j) φ → it k = .val M' (some j) ψ → i = k)
    (hlast : ((List.range nn).all fun i => T i || (List.range nn).all fun j => !T j || reachB ops nn i j) = true)
    (hguard : ∀ (i : Nat) (o : Oper) (g : Nat) (want : Bool), ops[i]? = some o → T i = true → o.guard = some (g, want) → it g = .val none none (isV (.bool want)) ∧ (∀ k M φ, it k ≠ .val M (some g) φ) ∧ ∃ t, (g, t) ∈ news)
    (hone : ∀ i j b s s', it i = .put b s → it j = .put b s' → i = j)
    (hrest : ∀ i, nn ≤ i ∨ T i = false → it i = .val none none fun _ _ _ => True)
    (steps : ∀ i o, ops[i]? = some o → T i = true → StepOKE P news olds it w i o)
    (fin : ∀ u S w', PlanE it w (fun k => T k || decide (nn ≤ k)) u S w' → Reads news olds u (frameOf ops a u) → ∀ fuel listed, listed.size = nn → (∀ k, k < nn → listed.getD k true = T k) → unlisted listed.toList ≤ fuel → wpAny P .any ops Q fuel listed (frameOf ops a u) w') : (Code.region id ops true).wp P Q a w := by
  unfold planGB at hplan
  simp only [Bool.and_eq_true, decide_eq_true_eq] at hplan
  obtain ⟨⟨⟨⟨hn, hac⟩, hap⟩, hnews⟩, hol⟩ := hplan
  have hA := apart_of _ hap
  have hin : ∀ i o, ops[i]? = some o → (o, i) ∈ ops.toList.zipIdx := fun i o ho => by
    rw [List.mem_zipIdx_iff_getElem?]
    simpa using ho
  have hF : ∀ i o, ops[i]? = some o → ∀ u v, (frameOf ops a u).put o.dst v = frameOf ops a (upd u i v) := fun i o ho u v => frameL_step _ a u o i v hA (hin i o ho)
  have hg : ∀ i o, ops[i]? = some o → (match o.guard with | none => true | some (g, _) => waitsB o g) = true ∧ ∀ e ∈ o.after, Region.binds .any e = true → e.on < i := by
    intro i o ho
    have h2 := (List.all_eq_true.1 hac) _ (hin i o ho)
    rw [Bool.and_eq_true] at h2
    refine ⟨h2.1, fun e he hb => ?_⟩
    have h3 := (Array.all_eq_true_iff_forall_mem.1 h2.2) e he
    simpa [hb] using h3
  have hR : ∀ u, Reads news olds u (frameOf ops a u) := by
    intro u
    refine ⟨fun p hp => ?_, fun p hp => ?_⟩
    · have h1 := (List.all_eq_true.1 hnews) p hp
      simp only [Bool.and_eq_true, decide_eq_true_eq] at h1
      obtain ⟨h2, h3⟩ := h1
      split at h3
      · rename_i o ho
        exact frameL_new _ a u o p.1 p.2 hA (hin _ o ho) (by simpa using h3) (by rw [hsize]; exact h2)
      · cases h3
    · have h1 := (List.all_eq_true.1 hol) p.1 (List.mem_map.2 ⟨p, hp, rfl⟩)
      rw [← holds p hp]
      refine frameL_old _ a u p.1 fun q hq => ?_
      have h2 : q.1 ∈ ops.toList := by
        obtain ⟨o, i⟩ := q
        rw [List.mem_zipIdx_iff_getElem?] at hq
        exact List.mem_of_getElem? hq
      have h3 := (List.all_eq_true.1 h1) q.1 h2
      simpa using h3
  have hbs : ∀ j b' s', it j = .put b' s' → ∃ t n, it b' = .box t n := by
    intro j b' s' hj
    rcases Nat.lt_or_ge j ops.size with hlt | hge
    · cases hT : T j with
      | false => rw [hrest j (Or.inr hT)] at hj; cases hj
      | true =>
        obtain ⟨o, ho⟩ : ∃ o, ops[j]? = some o := ⟨ops[j], by simp [hlt]⟩
        have h := steps j o ho hT
        unfold StepOKE at h
        rw [hj] at h
        obtain ⟨⟨t, n, M, e, φ, h1, _⟩, _⟩ := h
        exact ⟨t, n, h1⟩
    · rw [hrest j (Or.inl (by omega))] at hj; cases hj
  have hlast' : ∀ i o, ops[i]? = some o → T i = false → ∀ j, j < ops.size → T j = true → ∃ n, reachB ops n i j = true := by
    intro i o ho hTi j hj hTj
    have hi := (Array.getElem?_eq_some_iff.1 ho).1
    have h1 := (List.all_eq_true.1 hlast) i (List.mem_range.2 (by omega))
    rw [hTi, Bool.false_or] at h1
    have h2 := (List.all_eq_true.1 h1) j (List.mem_range.2 (by omega))
    rw [hTj, Bool.not_true, Bool.false_or] at h2
    exact ⟨nn, h2⟩
  have h0 : ∃ u0, frameOf ops a u0 = a := by
    refine ⟨fun i => (((ops[i]?).bind (·.dst)).map fun t => a.tmps.getD t undef).getD undef, frameL_self _ a _ fun p hp => ?_⟩
    obtain ⟨o, i⟩ := p
    rw [List.mem_zipIdx_iff_getElem?] at hp
    have ho : ops[i]? = some o := by simpa using hp
    simp [ho]
  obtain ⟨u0, hu0⟩ := h0
  rw [← hu0]
  refine wp_region_any hm (wpAny_of_steps T (fun d a1 w' => ∃ u S, a1 = frameOf ops a u ∧ PlanE it w d u S w') (fun i o ho => (hg i o ho).2) hlast' ?_ ?_ _ _ _ _ (by simp) ?_ ?_ ?_ ?_)
  · rintro i o ho hTi d d' a1 w1 ⟨u, S, rfl, hp⟩ hdi hdeps hd'i hd'
    have h := steps i o ho hTi
    have hw : Region.wanted o (yielded ops (frameOf ops a u).tmps) = true := by
      unfold Region.wanted
      cases hgo : o.guard with
      | none => rfl
      | some gw =>
        obtain ⟨g, want⟩ := gw
        have h1 := (hg i o ho).1
        rw [hgo] at h1
        obtain ⟨e, he, hb, hon⟩ := waits_of h1
        have hdg : d g = true := by rw [← hon]; exact hdeps e he hb
        obtain ⟨h2, hne, t, hmem⟩ := hguard i o g want ho hTi hgo
        have h3 : u g = .bool want := (hp.val g _ _ _ h2 hdg (fun k M φ hk => absurd hk (hne k M φ))).1
        have h4 := (hR u).1 _ hmem
        have h5 := (List.all_eq_true.1 hnews) _ hmem
        simp only [Bool.and_eq_true, decide_eq_true_eq] at h5
        obtain ⟨h6, h7⟩ := h5
        split at h7
        · rename_i o' ho'
          have h8 : o'.dst = some t := by simpa using h7
          have h9 : (frameOf ops a u).tmps[t]? = some (.bool want) := by
            have hlt : t < (frameOf ops a u).tmps.size := by rw [frameOf_size, hsize]; exact h6
            have h10 : (frameOf ops a u).tmps.getD t undef = .bool want := by
              have : (frameOf ops a u).eval (.tmp t) = (frameOf ops a u).tmps.getD t undef := rfl
              rw [← this, h4, h3]
            simpa [hlt] using h10
          simp only [yielded, ho', Option.bind_some, h8, h9, beq_self_eq_true]
        · cases h7
    unfold wpOp
    simp only [ho, hw, if_true]
    refine .inl ?_
    unfold StepOKE at h
    cases hi : it i with
    | val M e φ =>
      rw [hi] at h
      have he : ∀ j, e = some j → d j = true ∧ Live it d j := fun j hj => by
        subst hj
        refine ⟨h.1 j rfl d hdeps, fun k M' ψ hk => ?_⟩
        have := hE1 i k j M M' φ ψ hi hk
        subst this
        exact hdi
      exact h.2 _ d u S w1 _ _ hp hdi (hR u) hdeps he fun v S' w' row hb hrow hφ hS => ⟨upd u i v, upd S i S', hF i o ho u v, hp.step_val hd' hdi hd'i (fun k hk => upd_ne u v hk) hst hM hMlt hE hbs hi he hb hrow (by rw [upd_same]; exact hφ) hS⟩
    | box t n =>
      rw [hi] at h
      obtain ⟨z, hn, hop, hz⟩ := h
      exact wp_alloc_box t z hop hz ⟨upd u i _, S, hF i o ho u _, hp.step_box hd' hdi hd'i (fun k hk => upd_ne u _ hk) hst hi hn (upd_same u i _)⟩
    | put b s =>
      rw [hi] at h
      obtain ⟨⟨t, n, M, e, φ, hb, hs, hlvs, hag⟩, ⟨e1, he1, hb1, ho1⟩, ⟨e2, he2, hb2, ho2⟩, ty, x, y, hop, hx, hy, hinfo, hdst⟩ := h
      have hdb : d b = true := by rw [← ho1]; exact hdeps e1 he1 hb1
      have hds : d s = true := by rw [← ho2]; exact hdeps e2 he2 hb2
      obtain ⟨N, old, h1, h2, h3, h4⟩ := hp.box b t n hb hdb
      obtain ⟨cs, hcs, hsz, hone1⟩ := hag _ _ _ (hp.val s M e φ hs hds (fun k M φ hk => absurd hk (hlvs k M φ))).1
      refine wp_store_row ty (.tmp x) (.tmp y) hop N cs (((hR u).1 _ hx).trans h1) (((hR u).1 _ hy).trans hcs) t old h3 (by rw [hinfo t n hb, hsz]) (by omega) hone1 ?_
      exact ⟨upd u i undef, S, hF i o ho u undef, hp.step_put hd' hdi hd'i (fun k hk => upd_ne u _ hk) hst hbs hi hb hdb hds h1 hcs hsz (fun j b' s' hj hjb => by subst hjb; exact hone j i b' s' s hj hi)⟩
  · rintro d a1 w' hall ⟨u, S, rfl, hp⟩ fuel listed hsz hl hf
    have e : d = fun k => T k || decide (nn ≤ k) := funext fun k => by rw [hall k, hn]
    subst e
    exact fin u S w' hp (hR u) fuel listed (by omega) (fun k hk => hl k (by omega)) hf
  · simp [unlisted]
  · intro k o ho hk
    have := (Array.getElem?_eq_some_iff.1 ho).1
    simp [this] at hk
  · intro k hk _
    simp [hk]
  · refine ⟨u0, fun _ _ => False, rfl, ⟨rfl, rfl, rfl, Nat.le_refl _, fun _ _ _ => rfl, fun i M e φ hi hd _ => ?_, fun i t n hi hd => ?_, fun i b s hi hd => ?_, fun i j t n t' n' hi _ hd _ _ => ?_, fun i M e φ j t n N _ hj _ hd _ _ => ?_, fun i j M e φ M' e' ψ hi _ hd _ _ _ _ b hb => hb.elim⟩⟩
    all_goals
      have hge : ∀ k, (Array.replicate ops.size false).getD k true = true → nn ≤ k := fun k hk => by
        rcases Nat.lt_or_ge k ops.size with h | h
        · simp [h] at hk
        · omega
    · have := hrest i (Or.inl (hge i hd))
      rw [hi] at this; cases this
      exact ⟨trivial, fun b hb => hb.elim⟩
    · have := hrest i (Or.inl (hge i hd))
      rw [hi] at this; cases this
    · have := hrest i (Or.inl (hge i hd))
      rw [hi] at this; cases this
    · have := hrest i (Or.inl (hge i hd))
      rw [hi] at this; cases this
    · have := hrest j (Or.inl (hge j hd))
      rw [hj] at this; cases this

end Go.Proofs.YtbdciilkapgfjaaGreatDoor
