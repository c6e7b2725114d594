/- Plain facts on flattening, and on how many values a JSON value has. -/
import Derived.Test.YtinmcopamjjlbaaGreatDoorFit
namespace Go.Proofs.YtinmcopamjjlbaaGreatDoor
open Go.RowKit

/-- How many values a JSON value has. -/
def J.n : J → Nat
  | .arr l => 1 + (l.attach.map fun x => x.1.n).sum
  | .obj m => 1 + (m.attach.map fun x => x.1.2.n).sum
  | _ => 1
termination_by j => SizeOf.sizeOf j
decreasing_by
  · have := List.sizeOf_lt_of_mem x.2; simp; omega
  · have h1 := List.sizeOf_lt_of_mem x.2
    have h2 : SizeOf.sizeOf x.1.2 < SizeOf.sizeOf x.1 := by cases x.1; simp; omega
    simp; omega
theorem J.n_arr (l : List J) : (J.arr l).n = 1 + (l.map J.n).sum := by
  rw [J.n]; simp
theorem J.n_obj (m : List (ByteArray × J)) : (J.obj m).n = 1 + (m.map fun x => x.2.n).sum := by
  rw [J.n]; simp only [List.map_attach_eq_pmap, List.pmap_eq_map]
theorem J.n_leaf (j : J) (h1 : ∀ l, j ≠ .arr l) (h2 : ∀ m, j ≠ .obj m) : j.n = 1 := by
  cases j with
  | arr l => exact absurd rfl (h1 l)
  | obj m => exact absurd rfl (h2 m)
  | _ => rw [J.n] <;> intros <;> simp_all
theorem J.n_null : J.null.n = 1 := J.n_leaf _ (fun _ h => by cases h) (fun _ h => by cases h)
theorem J.n_bool (b : Bool) : (J.bool b).n = 1 := J.n_leaf _ (fun _ h => by cases h) (fun _ h => by cases h)
theorem J.n_num (h : Int) : (J.num h).n = 1 := J.n_leaf _ (fun _ h => by cases h) (fun _ h => by cases h)
theorem J.n_str (s : ByteArray) : (J.str s).n = 1 := J.n_leaf _ (fun _ h => by cases h) (fun _ h => by cases h)
theorem J.n_pos (j : J) : 1 ≤ j.n := by
  cases j with
  | arr l => rw [J.n_arr]; omega
  | obj m => rw [J.n_obj]; omega
  | null => rw [J.n_null]; omega
  | bool b => rw [J.n_bool]; omega
  | num b => rw [J.n_num]; omega
  | str b => rw [J.n_str]; omega

/-- A right tree's JSON value has no more values. -/
theorem T.j_n : ∀ (k : Nat) (t : T), SizeOf.sizeOf t ≤ k → Good t → t.j.n ≤ t.n
  | 0, t, hk, _ => by cases t; simp at hk
  | k + 1, t, hk, hg => by
    have o := hg.own
    have hn := T.n_eq t
    have sumle : ∀ (l : List T), (∀ i (h : i < l.length), l[i].j.n ≤ l[i].n) → (l.map fun x => x.j.n).sum ≤ (l.map T.n).sum := by
      intro l
      induction l with
      | nil => intro _; simp
      | cons x l ih =>
        intro h
        have h0 := h 0 (by simp)
        have h1 := ih fun i hi => by have := h (i + 1) (by simpa using hi); simpa using this
        simp only [List.map_cons, List.sum_cons]
        simp at h0
        omega
    have hl := sumle t.l fun i hi => T.j_n k t.l[i] (by have := t.lt_l hi; omega) (hg.l hi)
    have hv := sumle t.vs fun i hi => T.j_n k t.vs[i] (by have := t.lt_vs hi; omega) (hg.vs hi)
    rw [T.j_eq]
    split
    · rw [J.n_null]; omega
    · split
      · rw [J.n_bool]; omega
      · split
        · rw [J.n_bool]; omega
        · split
          · rw [J.n_num]; omega
          · split
            · rw [J.n_str]; omega
            · split
              · rw [J.n_arr, List.map_map]
                have : (t.l.map (J.n ∘ T.j)).sum = (t.l.map fun x => x.j.n).sum := rfl
                omega
              · rw [J.n_obj]
                have e : ((t.ks.zip (t.vs.map T.j)).map fun x => x.2.n) = t.vs.map fun x => x.j.n := by
                  have h1 : ((t.ks.zip (t.vs.map T.j)).map fun x => x.2.n) = ((t.ks.zip (t.vs.map T.j)).map (·.2)).map J.n := by rw [List.map_map]; rfl
                  rw [h1, List.map_snd_zip (by simp; exact Nat.le_of_eq o.vals.symm), List.map_map]; rfl
                rw [e]; omega

theorem J.n_mem {l : List J} {x : J} (h : x ∈ l) : x.n < (J.arr l).n := by
  rw [J.n_arr]
  have : x.n ≤ (l.map J.n).sum := by
    induction l with
    | nil => cases h
    | cons y l ih =>
      simp only [List.map_cons, List.sum_cons]
      rcases List.mem_cons.1 h with rfl | h
      · omega
      · have := ih h; omega
  omega

theorem J.len_le (l : List J) : l.length ≤ (J.arr l).n := by
  have h : l.length ≤ (l.map J.n).sum := by
    induction l with
    | nil => simp
    | cons x l ih => simp only [List.length_cons, List.map_cons, List.sum_cons]; have := J.n_pos x; omega
  rw [J.n_arr]; omega

/-- All elements, those of arrays in their place, all the way down. -/
def flatJ : J → List J
  | .arr l => (l.attach.map fun x => flatJ x.1).flatten
  | j => [j]
termination_by j => SizeOf.sizeOf j
decreasing_by
  · have := List.sizeOf_lt_of_mem x.2; simp; omega
theorem flatJ_arr (l : List J) : flatJ (.arr l) = (l.map flatJ).flatten := by
  rw [flatJ]; simp
theorem flatJ_other (j : J) (h : ∀ l, j ≠ .arr l) : flatJ j = [j] := by
  cases j with
  | arr l => exact absurd rfl (h l)
  | _ => rw [flatJ] <;> intros <;> simp_all

theorem flatJ_len : ∀ (k : Nat) (j : J), SizeOf.sizeOf j ≤ k → (flatJ j).length ≤ j.n
  | 0, j, h => by cases j <;> simp at h
  | k + 1, j, h => by
    cases j with
    | arr l =>
      rw [flatJ_arr, J.n_arr, List.length_flatten, List.map_map]
      have : ∀ l' : List J, (∀ x ∈ l', SizeOf.sizeOf x ≤ k) → (l'.map (List.length ∘ flatJ)).sum ≤ (l'.map J.n).sum := by
        intro l'
        induction l' with
        | nil => intro _; simp
        | cons y l' ih =>
          intro hl
          have h1 := flatJ_len k y (hl y (List.mem_cons_self))
          have h2 := ih fun x hx => hl x (List.mem_cons_of_mem _ hx)
          simp only [List.map_cons, List.sum_cons, Function.comp] at h2 ⊢
          omega
      have h2 := this l fun x hx => by have := List.sizeOf_lt_of_mem hx; simp at h; omega
      omega
    | _ => rw [flatJ_other _ (fun l h => by cases h)]; exact J.n_pos _

/-- What holds of all parts of a value holds of what flattening leaves. -/
theorem flatJ_mem {p : J → Prop} (hp : ∀ l, p (.arr l) → ∀ x ∈ l, p x) : ∀ (k : Nat) (j : J), SizeOf.sizeOf j ≤ k → p j → ∀ x ∈ flatJ j, p x
  | 0, j, h, _ => by cases j <;> simp at h
  | k + 1, j, h, hj => by
    cases j with
    | arr l =>
      intro x hx
      rw [flatJ_arr] at hx
      obtain ⟨l', hl', hx'⟩ := List.mem_flatten.1 hx
      obtain ⟨y, hy, rfl⟩ := List.mem_map.1 hl'
      exact flatJ_mem hp k y (by have := List.sizeOf_lt_of_mem hy; simp at h; omega) (hp l hj y hy) x hx'
    | _ => intro x hx; rw [flatJ_other _ (fun l h => by cases h)] at hx; obtain rfl := List.mem_singleton.1 hx; exact hj
end Go.Proofs.YtinmcopamjjlbaaGreatDoor
