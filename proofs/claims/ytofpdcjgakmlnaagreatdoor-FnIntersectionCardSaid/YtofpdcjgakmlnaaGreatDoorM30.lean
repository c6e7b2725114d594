/- A part of the proof. A part of the proof. -/
import Derived.Test.YtofpdcjgakmlnaaGreatDoorM28
import Derived.Test.YtofpdcjgakmlnaaGreatDoorM29
import Derived.Test.YtofpdcjgakmlnaaGreatDoorM20
namespace Go.Proofs.YtofpdcjgakmlnaaGreatDoor
open Go.RowKit

theorem cmpN_iff {N : Nat} {a b : J} (h : SizeOf.sizeOf a ≤ N) : cmpN N a b = 0 ↔ a = b := ⟨cmpN_zero N a b h, fun e => by rw [e]; exact cmpN_refl N b⟩

theorem len_filter {α : Type} (p : α → Bool) : ∀ l : List α, (l.filter p).length + (l.filter fun x => !p x).length = l.length
  | [] => rfl
  | x :: l => by
    have := len_filter p l
    cases h : p x <;> simp [h] <;> omega

theorem subJ_mem {N : Nat} {l r : List J} (hN : ∀ x ∈ l, SizeOf.sizeOf x ≤ N) {x : J} : x ∈ subJ N l r ↔ x ∈ l ∧ x ∉ r := by
  unfold subJ
  rw [List.mem_filter, List.all_eq_true]
  refine and_congr_right fun hx => ?_
  constructor
  · intro h hr
    have := h x hr
    rw [cmpN_refl] at this
    simp at this
  · intro h y hy
    have : cmpN N x y ≠ 0 := fun e => h ((cmpN_iff (hN x hx)).1 e ▸ hy)
    simpa using this

/-- What is left, and what is left of that: as many as there were. -/
theorem subJ_len2 {N : Nat} {l r : List J} (hN : ∀ x ∈ l, SizeOf.sizeOf x ≤ N) : (subJ N l r).length + (subJ N l (subJ N l r)).length = l.length := by
  have e : subJ N l (subJ N l r) = l.filter fun x => !(r.all fun y => cmpN N x y != 0) := by
    refine List.filter_congr fun x hx => ?_
    have h1 : ((subJ N l r).all fun y => cmpN N x y != 0) = true ↔ x ∉ subJ N l r := by
      rw [List.all_eq_true]
      constructor
      · intro h hr
        have := h x hr
        rw [cmpN_refl] at this
        simp at this
      · intro h y hy
        have : cmpN N x y ≠ 0 := fun e => h ((cmpN_iff (hN x hx)).1 e ▸ hy)
        simpa using this
    have h2 : (r.all fun y => cmpN N x y != 0) = true ↔ x ∈ subJ N l r := by
      unfold subJ
      rw [List.mem_filter]
      exact ⟨fun h => ⟨hx, h⟩, fun h => h.2⟩
    cases ha : (r.all fun y => cmpN N x y != 0) <;> cases hb : ((subJ N l r).all fun y => cmpN N x y != 0) <;> simp_all
  rw [e]
  exact len_filter _ l

theorem uqTake_mem {N : Nat} {s : Nat → J} : ∀ k, (∀ i, i < k → SizeOf.sizeOf (s i) ≤ N) → ∀ x, x ∈ uqTake N s k ↔ ∃ i, i < k ∧ s i = x
  | 0, _, x => by simp [uqTake]
  | k + 1, h, x => by
    have ih := uqTake_mem k (fun i hi => h i (by omega)) x
    have back : (∃ i, i < k ∧ s i = x) ∨ s k = x → ∃ i, i < k + 1 ∧ s i = x := fun h' => h'.elim (fun ⟨i, a, b⟩ => ⟨i, by omega, b⟩) fun e => ⟨k, by omega, e⟩
    by_cases hc : k = 0 ∨ cmpN N (s (k - 1)) (s k) ≠ 0
    · rw [uqTake_yes hc, List.mem_append, ih]
      constructor
      · rintro (h' | h')
        · exact back (.inl h')
        · exact back (.inr (List.mem_singleton.1 h').symm)
      · rintro ⟨i, hi, e⟩
        rcases Nat.lt_or_ge i k with h' | h'
        · exact .inl ⟨i, h', e⟩
        · obtain rfl : i = k := by omega
          exact .inr (List.mem_singleton.2 e.symm)
    · rw [uqTake_no hc, ih]
      have hk : k ≠ 0 := fun e => hc (.inl e)
      have he : s (k - 1) = s k := by
        by_cases hz : cmpN N (s (k - 1)) (s k) = 0
        · exact cmpN_zero N _ _ (h (k - 1) (by omega)) hz
        · exact absurd (.inr hz) hc
      constructor
      · exact fun h' => back (.inl h')
      · rintro ⟨i, hi, e⟩
        rcases Nat.lt_or_ge i k with h' | h'
        · exact ⟨i, h', e⟩
        · obtain rfl : i = k := by omega
          exact ⟨i - 1, by omega, he.trans e⟩

theorem uqTake_strict {N : Nat} {s : Nat → J} : ∀ k, (∀ i, i < k → SizeOf.sizeOf (s i) ≤ N) → (∀ i j, i < j → j < k → cmpN N (s i) (s j) ≤ 0) → (uqTake N s k).Pairwise fun a b => cmpN N a b < 0
  | 0, _, _ => by simp [uqTake]
  | k + 1, h, hs => by
    have ih := uqTake_strict k (fun i hi => h i (by omega)) (fun i j a b => hs i j a (by omega))
    by_cases hc : k = 0 ∨ cmpN N (s (k - 1)) (s k) ≠ 0
    · rw [uqTake_yes hc, List.pairwise_append]
      refine ⟨ih, by simp, fun a ha b hb => ?_⟩
      rw [List.mem_singleton] at hb
      subst hb
      obtain ⟨i, hi, rfl⟩ := (uqTake_mem k (fun i hi => h i (by omega)) a).1 ha
      have h1 := hs i k hi (by omega)
      rcases hc with hc | hc
      · omega
      · by_cases hz : cmpN N (s i) (s k) = 0
        · exfalso
          have e := cmpN_zero N _ _ (h i (by omega)) hz
          rcases Nat.lt_or_ge i (k - 1) with h' | h'
          · have h2 := hs i (k - 1) h' (by omega)
            have h3 := hs (k - 1) k (by omega) (by omega)
            rw [e] at h2
            have := cmpN_anti N (s (k - 1)) (s k)
            omega
          · obtain rfl : i = k - 1 := by omega
            exact hc hz
        · omega
    · rw [uqTake_no hc]; exact ih

/-- Lists of the same members: the same, each once and in order. -/
theorem uqJ_same {N : Nat} {l r : List J} (hl : ∀ x ∈ l, SizeOf.sizeOf x ≤ N) (hr : ∀ x ∈ r, SizeOf.sizeOf x ≤ N) (h : ∀ x, x ∈ l ↔ x ∈ r) : uqJ N l = uqJ N r := by
  have get : ∀ (l : List J) (i : Nat) (h : i < l.length), (sortJ N l).getD i .null = (sortJ N l)[i]'(by rw [(sortJ_perm N l).length_eq]; exact h) := fun l i h => by
    rw [List.getD_eq_getElem?_getD, List.getElem?_eq_getElem (by rw [(sortJ_perm N l).length_eq]; exact h)]; rfl
  have key : ∀ l : List J, (∀ x ∈ l, SizeOf.sizeOf x ≤ N) → (∀ x, x ∈ uqJ N l ↔ x ∈ l) ∧ (uqJ N l).Pairwise fun a b => cmpN N a b < 0 := fun l hl => by
    have hz : ∀ i, i < l.length → SizeOf.sizeOf ((sortJ N l).getD i .null) ≤ N := fun i hi => by
      rw [get l i hi]; exact hl _ ((sortJ_perm N l).subset (List.getElem_mem _))
    refine ⟨fun x => ?_, uqTake_strict l.length hz fun i j hij hj => ?_⟩
    · unfold uqJ
      rw [uqTake_mem l.length hz]
      constructor
      · rintro ⟨i, hi, rfl⟩
        rw [get l i hi]; exact (sortJ_perm N l).subset (List.getElem_mem _)
      · intro hx
        obtain ⟨i, hi, e⟩ := List.getElem_of_mem ((sortJ_perm N l).symm.subset hx)
        have hi' : i < l.length := by rwa [(sortJ_perm N l).length_eq] at hi
        exact ⟨i, hi', (get l i hi').trans e⟩
    · rw [get l i (by omega), get l j hj]
      exact (List.pairwise_iff_getElem.1 (sortJ_sorted N l)) i j _ _ hij
  obtain ⟨m1, p1⟩ := key l hl
  obtain ⟨m2, p2⟩ := key r hr
  have nd : ∀ l : List J, l.Pairwise (fun a b => cmpN N a b < 0) → l.Nodup := fun l hp => hp.imp fun {a b} h e => by rw [e, cmpN_refl] at h; omega
  have hp : (uqJ N l).Perm (uqJ N r) := (List.perm_ext_iff_of_nodup (nd _ p1) (nd _ p2)).2 fun x => (m1 x).trans ((h x).trans (m2 x).symm)
  refine List.Perm.eq_of_pairwise ?_ p1 p2 hp
  intro a b _ _ h2 h3
  have := cmpN_anti N a b
  omega

theorem uqJ_mem {N : Nat} {l : List J} (hl : ∀ x ∈ l, SizeOf.sizeOf x ≤ N) : ∀ x ∈ uqJ N l, x ∈ l := fun x hx => by
  have get : ∀ (i : Nat) (h : i < l.length), (sortJ N l).getD i .null = (sortJ N l)[i]'(by rw [(sortJ_perm N l).length_eq]; exact h) := fun i h => by
    rw [List.getD_eq_getElem?_getD, List.getElem?_eq_getElem (by rw [(sortJ_perm N l).length_eq]; exact h)]; rfl
  have hz : ∀ i, i < l.length → SizeOf.sizeOf ((sortJ N l).getD i .null) ≤ N := fun i hi => by
    rw [get i hi]; exact hl _ ((sortJ_perm N l).subset (List.getElem_mem _))
  obtain ⟨i, hi, rfl⟩ := (uqTake_mem l.length hz x).1 hx
  rw [get i hi]; exact (sortJ_perm N l).subset (List.getElem_mem _)
theorem uqJ_len (N : Nat) (l : List J) : (uqJ N l).length ≤ l.length := uqTake_len N _ _

/-- From either side: the same members. -/
theorem both_same {N : Nat} {l r : List J} (hl : ∀ x ∈ l, SizeOf.sizeOf x ≤ N) (hr : ∀ x ∈ r, SizeOf.sizeOf x ≤ N) : uqJ N (subJ N l (subJ N l r)) = uqJ N (subJ N r (subJ N r l)) := by
  refine uqJ_same (fun x hx => hl x ((subJ_mem hl).1 hx).1) (fun x hx => hr x ((subJ_mem hr).1 hx).1) fun x => ?_
  rw [subJ_mem hl, subJ_mem hl, subJ_mem hr, subJ_mem hr]
  constructor
  · rintro ⟨h1, h2⟩
    have h3 : x ∈ r := Classical.byContradiction fun h => h2 ⟨h1, h⟩
    exact ⟨h3, fun h => h.2 h1⟩
  · rintro ⟨h1, h2⟩
    have h3 : x ∈ l := Classical.byContradiction fun h => h2 ⟨h1, h⟩
    exact ⟨h3, fun h => h.2 h1⟩
end Go.Proofs.YtofpdcjgakmlnaaGreatDoor

namespace Go.Proofs.YtofpdcjgakmlnaaGreatDoor
open Go.RowKit

theorem JOK.mem {l : List J} (h : JOK (.arr l)) : ∀ x ∈ l, JOK x := fun x hx => by
  rw [JOK] at h
  obtain ⟨i, hi, rfl⟩ := List.getElem_of_mem hx
  exact h.2.2.2.2.1 i hi
theorem JOK.len {l : List J} (h : JOK (.arr l)) : l.length ≤ 400 := by
  rw [JOK] at h
  exact h.2.2.1
theorem JOK.sub {l l' : List J} (h : JOK (.arr l)) (hs : ∀ x ∈ l', x ∈ l) (hl : l'.length ≤ 400) : JOK (.arr l') := by
  rw [JOK]
  exact ⟨by simp [J.half], by simp [J.text, ByteArray.size], hl, by simp [J.ents], fun i hi => h.mem _ (hs _ (List.getElem_mem hi)), fun i hi => absurd hi (by simp [J.ents]), fun i hi => absurd hi (by simp [J.ents]), fun i hi => absurd hi (by simp [J.ents])⟩
theorem subJ_ok {N : Nat} {l r : List J} (h : JOK (.arr l)) : JOK (.arr (subJ N l r)) :=
  h.sub (fun _ hx => (List.mem_filter.1 hx).1) (Nat.le_trans (List.length_filter_le _ _) h.len)

theorem uqJ_ok {N : Nat} {l : List J} (h : JOK (.arr l)) (hN : ∀ x ∈ l, SizeOf.sizeOf x ≤ N) : JOK (.arr (uqJ N l)) :=
  h.sub (uqJ_mem hN) (Nat.le_trans (uqJ_len N l) h.len)
/-- A list's Value reads as an array. -/
theorem Head.arr {j : J} {c : VC} (h : Head j c) (hk : c.k = 5) : ∃ l, j = .arr l ∧ l.length = c.ll := by
  have e := h.k
  rw [hk] at e
  cases j with
  | arr l => exact ⟨l, rfl, h.ll.symm⟩
  | bool b => cases b <;> simp [J.kind] at e
  | _ => simp [J.kind] at e

/-- What the door OpSub gives at two arrays. -/
theorem IOpSub_arr (N : Nat) {l r : List J} {a c : VC} {w : World} {S : Nat → Prop} (hl : JOK (.arr l)) (hr : JOK (.arr r)) (ha : VR w S (.arr l) a) (hc : VR w S (.arr r) c) (hS : ∀ b, S b → b < w.heap.size) (hN : ∀ x ∈ l, SizeOf.sizeOf x ≤ N) :
    Calls Tryz.prog 6 #[a.val, c.val] w fun e w' => ∃ x, e = .returned (resVal x 0) ∧ VR w' (New w.heap.size w') (.arr (subJ N l r)) x ∧ Below w.heap.size w w' :=
  IOpSub_any (.arr l) (.arr r) (.value (.arr (subJ N l r))) a c w S hl hr ha hc hS (fun h => by cases h) (fun j' h => by cases h; exact JOK.jw _ (Nat.le_refl _) (subJ_ok hl))
    fun _ _ _ _ j1 j2 hS1 => ZzOpSub_hands (fun h => by cases h) (funcOpSub_arr N j1 j2 hl.len hr.len hN hl.mem hr.mem hS1)

/-- What the door Unique gives at an array. -/
theorem IUnique_arr (N : Nat) {l : List J} {a : VC} {w : World} {S : Nat → Prop} (hl : JOK (.arr l)) (ha : VR w S (.arr l) a) (hS : ∀ b, S b → b < w.heap.size) (hN : ∀ x ∈ l, SizeOf.sizeOf x ≤ N) :
    Calls Tryz.prog 7 #[a.val] w fun e w' => ∃ x, e = .returned (resVal x 0) ∧ VR w' (New w.heap.size w') (.arr (uqJ N l)) x ∧ Below w.heap.size w w' :=
  IUnique_any (.arr l) (.value (.arr (uqJ N l))) a w S hl ha hS (fun h => by cases h) (fun j' h => by cases h; exact JOK.jw _ (Nat.le_refl _) (uqJ_ok hl hN))
    fun _ _ _ j1 hS1 => ZzUnique_hands (fun h => by cases h) (funcUnique_arr N j1 hl.len hN hl.mem hS1)
end Go.Proofs.YtofpdcjgakmlnaaGreatDoor
