/- append of a row that a callee made; rows of Values that read as a list. A part of the proof. A part of the proof. A plan of a region whose last operations write a slot that the first ones read. More steps for a plan: calls in general, new boxes, an array of one Value. -/
import Derived.Test.YtnaijgdffbfapaaGreatDoorM17
import Derived.Laws.AppendOwnNone
import Derived.Test.YtnaijgdffbfapaaGreatDoorZPlanE
import Derived.Maps.AppendAt
import Derived.Test.YtnaijgdffbfapaaGreatDoorM12
namespace Go.Proofs.YtnaijgdffbfapaaGreatDoor
open Go.RowKit

section
variable {P : Program} {w : World} {ops : Array Oper} {rest : List Oper} {o : Oper} {a : Act} {Q : Exit → Act → World → Prop}
/-- append of a whole row that a callee made, nil or not. -/
theorem wpList_append_row (hgd : o.guard = none) (s x : Operand) (t : TypeId) (ho : o.op = .call { callee := .builtin .append, args := #[s, x], argTypes := #[t, t] })
    (base : Nat) (e : TypeId) (i : TypeInfo) (z : Value) (size bytes : Nat) (ht : P.underlying t = some (.slice e)) (hi : P.info? e = some i) (hz : i.zero = some z)
    (hsize : i.size = size) (hby : i.bytes = bytes) (hzs : z.cells.size = size) (hsz : 0 < size)
    (v : Value) (n : Nat) (xs : List Value) (hs : a.eval s = v) (hown : w.ownsRow base e size v n xs)
    (v2 : Value) (n2 base2 : Nat) (ys : List Value) (hx : a.eval x = v2) (hown2 : w.ownsRow base2 e size v2 n2 ys) (h1 : ∀ u ∈ ys, u.oneCell' = true)
    (h63 : n + n2 ≤ maxLen) (hbytes : (n + n2) * bytes ≤ 140737488355328) (hbase : base ≤ w.heap.size)
    (h : ∀ v' w', w'.ownsRow base e size v' (n + n2) (xs ++ ys) → w.grownBy w' v.ownBlock → (v'.ownBlock = v.ownBlock ∨ v'.ownBlock = some w.heap.size) → wpList P ops Q rest (a.put o.dst v') w') : wpList P ops Q (o :: rest) a w := by
  rcases hown2.2 with ⟨rfl, rfl⟩ | ⟨g, cap, cur, rfl, _, _, _⟩
  · obtain rfl : ys = [] := List.eq_nil_of_length_eq_zero (by simpa using hown2.1)
    refine wpList_append_own_none hgd s x t ho base e i size ht hi v n xs hs hown hx (h v w (by simpa using hown) (grown_of_below0 (Below.refl _ _) _) (Or.inl rfl))
  · exact wpList_append_own_at w hgd s x t ho base e i z size bytes ht hi hz hsize hby hzs hsz v n xs hs hown ⟨g, 0, none⟩ n2 cap ys hx hown2.1 (hown2.cells (g := g) rfl) h1 h63 hbytes hbase (fun v' w' h2 h3 _ h5 => h v' w' h2 h3 h5)
end

/-- Values in a row that a call owns, each a reading in blocks of S. -/
def VRow (lo : Nat) (S : Nat → Prop) (l : List J) (v : Value) (xs : List VC) (w : World) : Prop :=
  w.ownsRow lo 26 6 v xs.length (cellsOf xs) ∧ xs.length = l.length ∧ ∀ i (_ : i < l.length) (h : i < xs.length), VR w S l[i] xs[i]
theorem VRow.nil (lo : Nat) (S : Nat → Prop) (w : World) : VRow lo S [] (.slice none 0 0) [] w := ⟨World.ownsRow_nil _ _ _ _, rfl, fun i h => absurd h (Nat.not_lt_zero i)⟩
theorem VRow.form {lo : Nat} {S : Nat → Prop} {l : List J} {v : Value} {xs : List VC} {w : World} (h : VRow lo S l v xs w) : ∃ a cap, v = .slice a l.length cap := by
  obtain ⟨h1, h2, _⟩ := h
  rcases h1.2 with ⟨rfl, h0⟩ | ⟨g, cap, cur, rfl, _⟩
  · exact ⟨none, 0, by rw [← h2, h0]⟩
  · exact ⟨some ⟨g, 0, none⟩, cap, by rw [h2]⟩
theorem row_form {w : World} {base size : Nat} {e : TypeId} {v : Value} {n : Nat} {xs : List Value} (h : w.ownsRow base e size v n xs) : ∃ a cap, v = .slice a n cap := by
  rcases h.2 with ⟨rfl, h0⟩ | ⟨g, cap, cur, rfl, _⟩
  · exact ⟨none, 0, by rw [h0]⟩
  · exact ⟨some ⟨g, 0, none⟩, cap, rfl⟩
theorem VRow.go {lo : Nat} {S S' : Nat → Prop} {l : List J} {v : Value} {xs : List VC} {w w' : World} (h : VRow lo S l v xs w) (hr : w'.ownsRow lo 26 6 v xs.length (cellsOf xs)) (hb : Same S w w') (hS : ∀ b, S b → S' b) : VRow lo S' l v xs w' :=
  ⟨hr, h.2.1, fun i hi hx => (h.2.2 i hi hx).go hb hS⟩
theorem VRow.append {lo : Nat} {S : Nat → Prop} {l l' : List J} {v : Value} {xs ys : List VC} {w : World} (hr : w.ownsRow lo 26 6 v (xs.length + ys.length) (cellsOf xs ++ cellsOf ys)) (h1 : xs.length = l.length) (h2 : ys.length = l'.length)
    (hx : ∀ i (_ : i < l.length) (h : i < xs.length), VR w S l[i] xs[i]) (hy : ∀ i (_ : i < l'.length) (h : i < ys.length), VR w S l'[i] ys[i]) : VRow lo S (l ++ l') v (xs ++ ys) w := by
  refine ⟨by rw [List.length_append, cellsOf_append]; exact hr, by simp [h1, h2], fun i hi hx' => ?_⟩
  rcases Nat.lt_or_ge i l.length with h | h
  · rw [List.getElem_append_left h, List.getElem_append_left (by omega)]
    exact hx i h (by omega)
  · rw [List.getElem_append_right h, List.getElem_append_right (by omega)]
    simp only [h1]
    exact hy (i - l.length) (by simp at hi; omega) (by simp at hx'; omega)
theorem cells_one (xs : List VC) : ∀ u ∈ cellsOf xs, u.oneCell' = true := by
  intro u hu
  simp only [cellsOf, List.mem_flatMap] at hu
  obtain ⟨c, _, hc⟩ := hu
  exact arr_cells c u hc

/-- An array read off a row. -/
theorem VRow.vr {lo : Nat} {S : Nat → Prop} {l : List J} {a : Option Addr} {n cap : Nat} {xs : List VC} {w : World} (h : VRow lo S l (.slice a n cap) xs w) (c : VC) (hk : c.k = 5) (hh : c.h = 0) (hs : c.s = ByteArray.empty) (ha : c.la = a) (hl : c.ll = n) (hn : n = l.length) (hkl : c.kl = 0) (hvl : c.vl = 0) (hlc : c.lc = cap) (hkc : c.kc = 0) (hvc : c.vc = 0) :
    VR w (fun b => S b ∨ (lo ≤ b ∧ b < w.heap.size)) (.arr l) c := by
  rw [VR]
  refine ⟨⟨hk, hh, hs, by rw [hl, hn]; rfl, hkl, hvl, by rw [hl, hlc]; have h1 := h.1; rw [h.2.1, ← hn] at h1; exact own_cap h1, by rw [hkl]; exact Nat.zero_le _, by rw [hvl]; exact Nat.zero_le _, by rw [ha, hlc]; have h1 := h.1; rw [h.2.1, ← hn] at h1; exact own_none h1, fun _ => hkc, fun _ => hvc⟩, fun i hi => ?_, fun i hi => ?_, fun i hi => ?_⟩
  · have hi' : i < l.length := hi
    have hx' : i < xs.length := by have := h.2.1; omega
    obtain ⟨g, cap', e, hg, hlt⟩ := h.1.form (by omega)
    cases e
    have h6 := row_at6 h.1 (g := g) rfl hx'
    exact ⟨g, 0, xs[i], ha, Or.inr ⟨hg, hlt⟩, by simpa using h6, (h.2.2 i hi' hx').mono (fun b hb => Or.inl hb)⟩
  · simp [J.ents] at hi
  · simp [J.ents] at hi
end Go.Proofs.YtnaijgdffbfapaaGreatDoor

namespace Go.Proofs.YtnaijgdffbfapaaGreatDoor
open Go.RowKit

/-- A row that a call owns. -/
def RowIs (base : Nat) (t : TypeId) (size n : Nat) (xs : List Value) : Value → (Nat → Prop) → World → Prop := fun v S w => w.ownsRow base t size v n xs ∧ ∀ g, v.ownBlock = some g → S g
theorem rowIs_st {base size n : Nat} {t : TypeId} {xs : List Value} {v : Value} {S : Nat → Prop} {w w' : World} (h : RowIs base t size n xs v S w) (hs : Same S w w') : RowIs base t size n xs v S w' :=
  ⟨row_same h.1 fun g hg => hs g (h.2 g hg), h.2⟩
/-- An array of Values over a row that a call owns. -/
def ArrIs (base n : Nat) (xs : List Value) : Value → (Nat → Prop) → World → Prop := fun v S w => ∃ a cap, v = VC.val ⟨5, 0, ByteArray.empty, a, n, cap, none, 0, 0, none, 0, 0⟩ ∧ RowIs base 26 6 n xs (.slice a n cap) S w

/-- What an operation is good for. -/
inductive KnE where
  | v (x : Value)
  | one (cs : Array Value) (t : TypeId)
  | row (e : Option Nat) (base : Nat) (t : TypeId) (size n : Nat) (xs : List Value)
  | rowO (M : Option Nat) (base : Nat) (t : TypeId) (size n : Nat) (xs : List Value)
  | arr (j base n : Nat) (xs : List Value)
  | r (j : J)
  | gen (e : Option Nat) (φ : Value → (Nat → Prop) → World → Prop) (st : ∀ v S w w', φ v S w → Same S w w' → φ v S w')
def KnE.phi : KnE → Value → (Nat → Prop) → World → Prop
  | .v x => isV x
  | .one cs t => OneSlice cs t
  | .row _ base t size n xs => RowIs base t size n xs
  | .rowO _ base t size n xs => RowIs base t size n xs
  | .arr _ base n xs => ArrIs base n xs
  | .r j => ResIs j
  | .gen _ φ _ => φ
def KnE.eats : KnE → Option Nat | .row e .. => e | .arr j .. => some j | .gen e .. => e | _ => none
def KnE.old : KnE → Option Nat | .rowO M .. => M | _ => none
def KnE.isOld : KnE → Bool | .rowO .. => true | _ => false
def KnE.item (k : KnE) : ItemE := .val k.old k.eats k.phi
def knE (L : List KnE) : Nat → ItemE := fun i => match L[i]? with | some k => k.item | none => .val none none fun _ _ _ => True
theorem knE_some {L : List KnE} {i : Nat} {M e : Option Nat} {φ : Value → (Nat → Prop) → World → Prop} (h : knE L i = .val M e φ) : (∃ k, L[i]? = some k ∧ M = k.old ∧ e = k.eats ∧ φ = k.phi) ∨ (L[i]? = none ∧ M = none ∧ e = none ∧ φ = fun _ _ _ => True) := by
  unfold knE at h
  split at h
  · rename_i k hk
    unfold KnE.item at h
    cases h
    exact Or.inl ⟨k, hk, rfl, rfl, rfl⟩
  · rename_i hn
    cases h
    exact Or.inr ⟨hn, rfl, rfl, rfl⟩
theorem KnE.st (k : KnE) {v : Value} {S : Nat → Prop} {w w' : World} (h : k.phi v S w) (hs : Same S w w') : k.phi v S w' := by
  cases k with
  | v x => exact h
  | one cs t => exact one_stable h hs
  | row e base t size n xs => exact rowIs_st h hs
  | rowO M base t size n xs => exact rowIs_st h hs
  | arr j base n xs => obtain ⟨a, cap, e, h⟩ := h; exact ⟨a, cap, e, rowIs_st h hs⟩
  | r j => exact ResIs.st j _ _ _ _ h hs
  | gen e φ st => exact st _ _ _ _ h hs
theorem knE_st (L : List KnE) : ∀ i M e φ, knE L i = .val M e φ → ∀ v S w w', φ v S w → Same S w w' → φ v S w' := by
  intro i M e φ hi v S w w' h hs
  rcases knE_some hi with ⟨k, _, _, _, rfl⟩ | ⟨_, _, _, rfl⟩
  · exact k.st h hs
  · trivial
theorem knE_rest (L : List KnE) : ∀ i, L.length ≤ i → knE L i = .val none none fun _ _ _ => True := by
  intro i hi
  unfold knE
  rw [List.getElem?_eq_none hi]
theorem knE_put {L : List KnE} {i b s : Nat} : knE L i ≠ .put b s := by
  unfold knE
  split
  · intro h; cases h
  · intro h; cases h
theorem knE_box {L : List KnE} {i n : Nat} {t : TypeId} : knE L i ≠ .box t n := by
  unfold knE
  split
  · intro h; cases h
  · intro h; cases h

/-- The list's closed facts: at most one item writes an old row; what is eaten is a row or an array of new memory, eaten once. -/
def KnE.food : KnE → Bool | .row .. => true | .arr .. => true | .one .. => true | .gen .. => true | _ => false
def eatB (L : List KnE) : Bool :=
  decide ((L.filter KnE.isOld).length ≤ 1) && (L.all fun k => match k.eats with | none => true | some j => match L[j]? with | some f => f.food | none => false) && onceB (L.map KnE.eats)
theorem olds_one : ∀ (L : List KnE), (L.filter KnE.isOld).length ≤ 1 → ∀ (i j : Nat) (k k' : KnE), L[i]? = some k → L[j]? = some k' → k.isOld = true → k'.isOld = true → i = j
  | [], _, i, _, _, _, h, _, _, _ => by simp at h
  | k0 :: L, h, i, j, k, k', hi, hj, hk, hk' => by
    have none_of : k0.isOld = true → ∀ (m : Nat) x, L[m]? = some x → x.isOld = true → False := fun h0 m x hm hx => by
      rw [List.filter_cons_of_pos h0] at h
      have : x ∈ L.filter KnE.isOld := List.mem_filter.2 ⟨List.mem_of_getElem? hm, hx⟩
      have := List.length_pos_of_mem this
      rw [List.length_cons] at h
      omega
    have tail : (L.filter KnE.isOld).length ≤ 1 := by
      cases h0 : k0.isOld with
      | true => rw [List.filter_cons_of_pos h0, List.length_cons] at h; omega
      | false => rw [List.filter_cons_of_neg (by simp [h0])] at h; exact h
    cases i with
    | zero =>
      cases j with
      | zero => rfl
      | succ j =>
        simp at hi hj
        subst hi
        exact (none_of hk j k' hj hk').elim
    | succ i =>
      cases j with
      | zero =>
        simp at hi hj
        subst hj
        exact (none_of hk' i k hi hk).elim
      | succ j =>
        simp at hi hj
        rw [olds_one L tail i j k k' hi hj hk hk']
theorem old_is {k : KnE} {b : Nat} (h : some b = k.old) : k.isOld = true := by cases k <;> simp [KnE.old] at h <;> rfl
theorem knE_M {L : List KnE} (h : eatB L = true) : ∀ i j e e' φ ψ b, knE L i = .val (some b) e φ → knE L j = .val (some b) e' ψ → i = j := by
  intro i j e e' φ ψ b hi hj
  simp only [eatB, Bool.and_eq_true, decide_eq_true_eq] at h
  rcases knE_some hi with ⟨k, hk, hM, _, _⟩ | ⟨_, hM, _, _⟩
  · rcases knE_some hj with ⟨k', hk', hM', _, _⟩ | ⟨_, hM', _, _⟩
    · exact olds_one L h.1.1 i j k k' hk hk' (old_is hM) (old_is hM')
    · cases hM'
  · cases hM
theorem knE_E {L : List KnE} (h : eatB L = true) : ∀ i j M φ, knE L i = .val M (some j) φ → M = none ∧ ∃ e ψ, knE L j = .val none e ψ := by
  intro i j M φ hi
  simp only [eatB, Bool.and_eq_true, decide_eq_true_eq] at h
  rcases knE_some hi with ⟨k, hk, hM, he, _⟩ | ⟨_, _, he, _⟩
  · have h1 := (List.all_eq_true.1 h.1.2) k (List.mem_of_getElem? hk)
    rw [← he] at h1
    simp only at h1
    split at h1
    · rename_i f hf
      refine ⟨?_, f.eats, f.phi, ?_⟩
      · rw [hM]; cases k <;> simp [KnE.eats] at he <;> rfl
      · unfold knE; rw [hf]
        have : f.old = none := by cases f <;> simp [KnE.food] at h1 <;> rfl
        show f.item = _
        unfold KnE.item
        rw [this]
    · cases h1
  · cases he
theorem knE_E1 {L : List KnE} (h : eatB L = true) : ∀ i k j M M' φ ψ, knE L i = .val M (some j) φ → knE L k = .val M' (some j) ψ → i = k := by
  intro i k j M M' φ ψ hi hk
  simp only [eatB, Bool.and_eq_true, decide_eq_true_eq] at h
  have key : ∀ i M φ, knE L i = .val M (some j) φ → (L.map KnE.eats)[i]? = some (some j) := by
    intro i M φ hi
    rcases knE_some hi with ⟨k, hk, _, he, _⟩ | ⟨_, _, he, _⟩
    · rw [List.getElem?_map, hk, he]; rfl
    · cases he
  exact once_of _ h.2 i k j (key i M φ hi) (key k M' ψ hk)

/-- A region that draws its order, by a list of what its first operations are good for; the others wait for all of these. -/
theorem planK {P : Program} {id : Nat} {ops : Array Oper} {Q : Exit → Act → World → Prop} {a : Act} {w : World} (nn m : Nat) (news : List (Nat × Tmp)) (olds : List (Tmp × Value)) (L : List KnE) (hm : P.follows .mixedOrders = true)
    (hplan : planGB ops nn m news (olds.map (·.1)) = true) (hsize : a.tmps.size = m) (holds : ∀ p ∈ olds, a.eval (.tmp p.1) = p.2) (hng : (ops.toList.all fun o => o.guard.isNone) = true) (heat : eatB L = true) (hLn : L.length ≤ nn)
    (hMlt : ∀ k ∈ L, ∀ b, k.old = some b → b < w.heap.size)
    (hlast : ((List.range nn).all fun i => decide (i < L.length) || (List.range nn).all fun j => !decide (j < L.length) || reachB ops nn i j) = true)
    (steps : ∀ i o, ops[i]? = some o → i < L.length → StepOKE P news olds (knE L) w i o)
    (fin : ∀ u S w', PlanE (knE L) w (fun k => decide (k < L.length) || decide (nn ≤ k)) u S w' → Reads news olds u (frameOf ops a u) → ∀ fuel listed, listed.size = nn → (∀ k, k < nn → listed.getD k true = decide (k < L.length)) → unlisted listed.toList ≤ fuel → wpAny P .any ops Q fuel listed (frameOf ops a u) w') : (Code.region id ops true).wp P Q a w :=
  planE_core nn m news olds (knE L) (fun k => decide (k < L.length)) hm hplan hsize holds (knE_st L) (knE_M heat)
    (fun i e φ b hi => by
      rcases knE_some hi with ⟨k, hk, hM, _, _⟩ | ⟨_, hM, _, _⟩
      · exact hMlt k (List.mem_of_getElem? hk) b hM.symm
      · cases hM)
    (knE_E heat) (knE_E1 heat) hlast
    (fun i o g want ho _ hg => by
      have := (List.all_eq_true.1 hng) o (by simpa using Array.mem_of_getElem? ho)
      rw [hg] at this; cases this)
    (fun i j b s s' hi _ => absurd hi knE_put)
    (fun i hi => by
      rcases hi with h | h
      · exact knE_rest L i (by omega)
      · exact knE_rest L i (by simpa using h))
    (fun i o ho hT => steps i o ho (by simpa using hT)) fin
end Go.Proofs.YtnaijgdffbfapaaGreatDoor

namespace Go.Proofs.YtnaijgdffbfapaaGreatDoor
open Go.RowKit

/-- What is appended: m elements at an address, or none. -/
def Src (w : World) (size : Nat) (v2 : Value) (m : Nat) (ys : List Value) : Prop :=
  (v2 = .slice none 0 0 ∧ m = 0 ∧ ys = []) ∨ ∃ ad c, v2 = .slice (some ad) m c ∧ ys.length = m * size ∧ (∀ j u, ys[j]? = some u → w.cell? (ad.add j) = some u)

/-- An append to a row that a call owns, of any number of elements. -/
theorem run_append_all {P : Program} (w : World) (t ty : TypeId) (base : Nat) (e : TypeId) (i : TypeInfo) (z : Value) (size bytes : Nat) (ht : P.underlying t = some (.slice e)) (hi : P.info? e = some i) (hz : i.zero = some z)
    (hsize : i.size = size) (hby : i.bytes = bytes) (hzs : z.cells.size = size) (hsz : 0 < size) (v : Value) (n : Nat) (xs : List Value) (hown : w.ownsRow base e size v n xs)
    (v2 : Value) (m : Nat) (ys : List Value) (hsrc : Src w size v2 m ys) (h1 : ∀ u ∈ ys, u.oneCell' = true) (h63 : n + m ≤ maxLen) (hbytes : (n + m) * bytes ≤ 140737488355328) (hbase : base ≤ w.heap.size) :
    ∃ v' w', (Builtin.append_ #[t, t] ty #[v, v2]).run P w = .ok v' w' ∧ w'.ownsRow base e size v' (n + m) (xs ++ ys) ∧ w.grownBy w' v.ownBlock ∧ (v'.ownBlock = v.ownBlock ∨ v'.ownBlock = some w.heap.size) := by
  rcases hsrc with ⟨rfl, rfl, rfl⟩ | ⟨ad, c, rfl, hl, hc⟩
  · exact ⟨v, w, run_append_owned_none (P := P) (w := w) base t ty e i size ht hi v n xs hown, by simpa using hown, grown_of_below0 (Below.refl _ _) _, Or.inl rfl⟩
  · obtain ⟨v', w', hr, h2, h3, _, h5⟩ := run_append_own_at (P := P) w base t ty e i z size bytes ht hi hz hsize hby hzs hsz v n xs hown ad m c ys hl hc h1 h63 hbytes hbase
    exact ⟨v', w', hr, h2, h3, h5⟩

theorem run_append_op {P : Program} {o : Oper} {b : Act} {w w' : World} {v v2 v' : Value} (s x : Operand) (t : TypeId) (ho : o.op = .call { callee := .builtin .append, args := #[s, x], argTypes := #[t, t] }) (hs : b.eval s = v) (hx : b.eval x = v2)
    (hr : (Builtin.append_ #[t, t] o.type #[v, v2]).run P w = .ok v' w') : (execOp b.eval o).run P w = .ok (.value v') w' := by
  unfold execOp
  simp only [ho, resolve, invoke, builtin, Sem.run_bind, Sem.run_pure, Result.andThen_ok, List.map_toArray, List.map_cons, List.map_nil, hs, hx, hr]

section
variable {news : List (Nat × Tmp)} {olds : List (Tmp × Value)} {L : List KnE} {w0 : World} {i : Nat} {o : Oper}

theorem knE_at {k : KnE} (h : L[i]? = some k) : knE L i = k.item := by unfold knE; rw [h]
/-- Old blocks that no row is written in are as they were. -/
theorem planE_keep {d : Nat → Bool} {u : Nat → Value} {S : Nat → Nat → Prop} {w : World} (hp : PlanE (knE L) w0 d u S w) (b : Nat) (hb : b < w0.heap.size) (hno : ∀ k ∈ L, k.old ≠ some b) : w.heap[b]? = w0.heap[b]? :=
  hp.block b hb fun j e φ hj => by
    rcases knE_some hj with ⟨k, hk, hM, _, _⟩ | ⟨_, hM, _, _⟩
    · exact absurd hM.symm (hno k (List.mem_of_getElem? hk))
    · cases hM
theorem planE_v {d : Nat → Bool} {u : Nat → Value} {S : Nat → Nat → Prop} {w : World} (hp : PlanE (knE L) w0 d u S w) (heat : eatB L = true) {j : Nat} {x : Value} (hj : L[j]? = some (.v x)) (hd : d j = true) : u j = x := by
  have hlive : Live (knE L) d j := fun k M φ hk => by
    obtain ⟨_, e, ψ, h2⟩ := knE_E heat k j M φ hk
    simp only [eatB, Bool.and_eq_true, decide_eq_true_eq] at heat
    rcases knE_some hk with ⟨q, hq, _, he, _⟩ | ⟨_, _, he, _⟩
    · have h1 := (List.all_eq_true.1 heat.1.2) q (List.mem_of_getElem? hq)
      rw [← he] at h1
      simp only [hj] at h1
      cases h1
    · cases he
  exact (hp.val j none none (isV x) (by rw [knE_at hj]; rfl) hd hlive).1

/-- What is known of an operation's operands. -/
def Uses (news : List (Nat × Tmp)) (L : List KnE) (o : Oper) (uses : List (Nat × Tmp × Value)) : Prop := ∀ p ∈ uses, (p.1, p.2.1) ∈ news ∧ L[p.1]? = some (.v p.2.2) ∧ waitsB o p.1 = true
theorem Uses.eval {uses : List (Nat × Tmp × Value)} (hu : Uses news L o uses) (heat : eatB L = true) {d : Nat → Bool} {u : Nat → Value} {S : Nat → Nat → Prop} {w : World} {b : Act} (hp : PlanE (knE L) w0 d u S w) (hR : Reads news olds u b) (hd : ∀ e ∈ o.after, Region.binds .any e = true → d e.on = true) :
    ∀ p ∈ uses, b.eval (.tmp p.2.1) = p.2.2 := fun p hpu => by
  obtain ⟨h1, h2, h3⟩ := hu p hpu
  obtain ⟨e1, h4, h5, h6⟩ := waits_of h3
  exact (hR.1 _ h1).trans (planE_v hp heat h2 (by rw [← h6]; exact hd e1 h4 h5))

theorem uses1 {j : Nat} {x : Tmp} {X : Value} (hx : (j, x) ∈ news) (hj : L[j]? = some (.v X)) (hw : waitsB o j = true) : Uses news L o [(j, x, X)] := fun p hp => by obtain rfl := List.mem_singleton.1 hp; exact ⟨hx, hj, hw⟩
theorem uses2 {j k : Nat} {x y : Tmp} {X Y : Value} (hx : (j, x) ∈ news) (hj : L[j]? = some (.v X)) (hw : waitsB o j = true) (hy : (k, y) ∈ news) (hk : L[k]? = some (.v Y)) (hwy : waitsB o k = true) : Uses news L o [(j, x, X), (k, y, Y)] := fun p hp => by
  rcases List.mem_cons.1 hp with rfl | hp
  · exact ⟨hx, hj, hw⟩
  · obtain rfl := List.mem_singleton.1 hp; exact ⟨hy, hk, hwy⟩

/-- An operation that runs to a known value. -/
theorem step_kn {v : Value} (uses : List (Nat × Tmp × Value)) (heat : eatB L = true) (hL : L[i]? = some (.v v)) (hu : Uses news L o uses)
    (hrun : ∀ (b : Act) (w : World), (∀ p ∈ uses, b.eval (.tmp p.2.1) = p.2.2) → (∀ p ∈ olds, b.eval (.tmp p.1) = p.2) → (∀ c, c < w0.heap.size → (∀ k ∈ L, k.old ≠ some c) → w.heap[c]? = w0.heap[c]?) → (execOp b.eval o).run Tryz.prog w = .ok (.value v) w) : StepOKE Tryz.prog news olds (knE L) w0 i o := by
  unfold StepOKE
  rw [knE_at hL]
  refine ⟨(fun j hj => by cases hj), ?_⟩
  intro Q d u S w b K hp hdi hR hd he hK
  exact wp_of_run v (hrun b w (hu.eval heat hp hR hd) hR.2 (planE_keep hp)) (hK.out _ (fun _ => False) _ none (grown_of_below0 (Below.refl _ _) _) (fun b h => by cases h) rfl (fun _ h => h.elim))

theorem kn_field0 {N off : Nat} (t : TypeId) (f : Nat) (x : Tmp) (heat : eatB L = true) (hL : L[i]? = some (.v (.pointer (some ⟨N, off, none⟩)))) (ho : o.op = .fieldAddr t (.tmp x) f) (hmem : (x, Value.pointer (some ⟨N, 0, none⟩)) ∈ olds)
    (hrun : ∀ w, (Instr.fieldAt t (.pointer (some ⟨N, 0, none⟩)) f).run Tryz.prog w = .ok (.pointer (some ⟨N, off, none⟩)) w) : StepOKE Tryz.prog news olds (knE L) w0 i o :=
  step_kn [] heat hL (fun p hp => by cases hp) fun b w _ ho' _ => run_fieldAddr N off hrun _ b ho (ho' _ hmem) w
theorem kn_load {a : Addr} {v : Value} (t : TypeId) (j : Nat) (x : Tmp) (heat : eatB L = true) (hL : L[i]? = some (.v v)) (ho : o.op = .load t (.tmp x)) (hx : (j, x) ∈ news) (hj : L[j]? = some (.v (.pointer (some a)))) (hw : waitsB o j = true)
    (hc : w0.cell? a = some v) (hlt : a.block < w0.heap.size) (hno : ∀ k ∈ L, k.old ≠ some a.block) (hload : ∀ w, w.cell? a = some v → (Instr.loadAt t (.pointer (some a))).run Tryz.prog w = .ok v w) : StepOKE Tryz.prog news olds (knE L) w0 i o :=
  step_kn [(j, x, _)] heat hL (uses1 hx hj hw) fun b w e _ hk => by
    have e1 := e _ List.mem_cons_self
    simp only at e1
    unfold execOp
    simp only [ho, e1, Sem.run_bind, hload w ((World.cell?_of_block (hk a.block hlt hno)).trans hc), Sem.run_pure, Result.andThen_ok]
theorem kn_load6 {N : Nat} {c : VC} (x : Tmp) (heat : eatB L = true) (hL : L[i]? = some (.v (VC.val c))) (ho : o.op = .load 26 (.tmp x)) (hmem : (x, Value.pointer (some ⟨N, 0, none⟩)) ∈ olds) (hb : Box w0 N c) (hno : ∀ k ∈ L, k.old ≠ some N) : StepOKE Tryz.prog news olds (knE L) w0 i o :=
  step_kn [] heat hL (fun p hp => by cases hp) fun b w _ ho' hk => by
    have e := ho' _ hmem
    simp only at e
    have hbw : Box w N c := (hk N hb.lt hno).trans hb
    unfold execOp
    simp only [ho, e, Sem.run_bind, load_at6 hbw.at6, Sem.run_pure, Result.andThen_ok]
theorem kn_move {v : Value} (x : Tmp) (heat : eatB L = true) (hL : L[i]? = some (.v v)) (ho : o.op = .move (.tmp x)) (hmem : (x, v) ∈ olds) : StepOKE Tryz.prog news olds (knE L) w0 i o :=
  step_kn [] heat hL (fun p hp => by cases hp) fun b w _ ho' _ => by have e := ho' _ hmem; simp only at e; unfold execOp; simp only [ho, e]; rfl

/-- A slice of one element. -/
theorem kn_one {v : Value} {cs : Array Value} (T t : TypeId) (j : Nat) (x : Tmp) (heat : eatB L = true) (hL : L[i]? = some (.one cs t)) (ho : o.op = .buildSlice T 1 #[(0, .tmp x)]) (hx : (j, x) ∈ news) (hj : L[j]? = some (.v v)) (hw : waitsB o j = true)
    (hrun : ∀ w, (Instr.buildSlice T 1 #[(0, v)]).run Tryz.prog w = .ok (.slice (some ⟨w.heap.size, 0, none⟩) 1 1) (w.alloc (.cells cs t))) : StepOKE Tryz.prog news olds (knE L) w0 i o := by
  unfold StepOKE
  rw [knE_at hL]
  refine ⟨(fun j hj => by cases hj), ?_⟩
  intro Q d u S w b K hp hdi hR hd he hK
  have ex := (uses1 hx hj hw).eval heat hp hR hd _ List.mem_cons_self
  simp only at ex
  refine wp_of_run (w' := w.alloc (.cells cs t)) _ (by unfold execOp; simp only [ho, List.map_toArray, List.map_cons, List.map_nil, ex, Sem.run_bind, hrun w, Sem.run_pure, Result.andThen_ok]) (hK.out _ (fun b => b = w.heap.size) _ none (World.grownBy_alloc _ _ _) (fun b h => by cases h) ⟨w.heap.size, rfl, rfl, heap_alloc_new _ _⟩ (fun b h => ?_))
  subst h
  exact ⟨Or.inl (Nat.le_refl _), by simp⟩

/-- What operation o appends, its operand x. -/
def SrcOK (news : List (Nat × Tmp)) (olds : List (Tmp × Value)) (L : List KnE) (w0 : World) (o : Oper) (x : Operand) (size m : Nat) (ys : List Value) : Prop :=
  ∀ d u S w b, PlanE (knE L) w0 d u S w → Reads news olds u b → (∀ e ∈ o.after, Region.binds .any e = true → d e.on = true) → Src w size (b.eval x) m ys
theorem src_old {size m : Nat} {v2 : Value} {ys : List Value} (j : Nat) (x : Tmp) (heat : eatB L = true) (hx : (j, x) ∈ news) (hj : L[j]? = some (.v v2)) (hw : waitsB o j = true) (h : Src w0 size v2 m ys)
    (hkeep : ∀ w, (∀ c, c < w0.heap.size → (∀ k ∈ L, k.old ≠ some c) → w.heap[c]? = w0.heap[c]?) → Src w0 size v2 m ys → Src w size v2 m ys) : SrcOK news olds L w0 o (.tmp x) size m ys := by
  intro d u S w b hp hR hd
  have ex := (uses1 hx hj hw).eval heat hp hR hd _ List.mem_cons_self
  simp only at ex
  rw [ex]
  exact hkeep w (planE_keep hp) h
theorem src_one {cs : Array Value} {t : TypeId} (j : Nat) (x : Tmp) (heat : eatB L = true) (hx : (j, x) ∈ news) (hj : L[j]? = some (.one cs t)) (hw : waitsB o j = true) (hne : ∀ k ∈ L, k.eats ≠ some j) : SrcOK news olds L w0 o (.tmp x) cs.size 1 cs.toList := by
  intro d u S w b hp hR hd
  obtain ⟨e1, h4, h5, h6⟩ := waits_of hw
  have hlive : Live (knE L) d j := fun k M φ hk => by
    rcases knE_some hk with ⟨q, hq, _, he, _⟩ | ⟨_, _, he, _⟩
    · exact absurd he.symm (hne q (List.mem_of_getElem? hq))
    · cases he
  obtain ⟨N, hN, _, hNb⟩ := (hp.val j none none (OneSlice cs t) (by rw [knE_at hj]; rfl) (by rw [← h6]; exact hd e1 h4 h5) hlive).1
  have ex := (hR.1 _ hx).trans hN
  have heat := heat
  exact Or.inr ⟨⟨N, 0, none⟩, 1, ex, by simp, World.news_of_block hNb⟩

/-- An append to nil. -/
theorem kn_app0 {base size bytes m : Nat} {e : TypeId} {inf : TypeInfo} {z : Value} {ys : List Value} (T : TypeId) (js : Nat) (s : Tmp) (x : Operand) (heat : eatB L = true) (hL : L[i]? = some (.row none base e size m ys))
    (ho : o.op = .call { callee := .builtin .append, args := #[.tmp s, x], argTypes := #[T, T] }) (hs : (js, s) ∈ news) (hjs : L[js]? = some (.v (.slice none 0 0))) (hws : waitsB o js = true) (hsrc : SrcOK news olds L w0 o x size m ys)
    (ht : Tryz.prog.underlying T = some (.slice e)) (hinf : Tryz.prog.info? e = some inf) (hz : inf.zero = some z) (hsize : inf.size = size) (hby : inf.bytes = bytes) (hzs : z.cells.size = size) (hsz : 0 < size)
    (hc1 : ∀ u ∈ ys, u.oneCell' = true) (h63 : m ≤ maxLen) (hbytes : m * bytes ≤ 140737488355328) (hbase : base ≤ w0.heap.size) : StepOKE Tryz.prog news olds (knE L) w0 i o := by
  unfold StepOKE
  rw [knE_at hL]
  refine ⟨(fun j hj => by cases hj), ?_⟩
  intro Q d u S w b K hp hdi hR hd he hK
  have es := (uses1 hs hjs hws).eval heat hp hR hd _ List.mem_cons_self
  simp only at es
  obtain ⟨v', w', hr, h2, h3, h4⟩ := run_append_all (P := Tryz.prog) w T o.type base e inf z size bytes ht hinf hz hsize hby hzs hsz (.slice none 0 0) 0 [] (World.ownsRow_nil _ _ _ _) (b.eval x) m ys (hsrc d u S w b hp hR hd) hc1 (by omega) (by simpa using hbytes) (Nat.le_trans hbase hp.size)
  rw [Nat.zero_add, List.nil_append] at h2
  refine wp_of_run v' (run_append_op _ _ T ho es rfl hr) (hK.out v' (fun g => v'.ownBlock = some g) w' none h3 (fun b h => by cases h) ⟨h2, fun g hg => hg⟩ (fun g hg => ?_))
  refine ⟨Or.inl ?_, (h2.lt g hg).2⟩
  rcases h4 with h | h
  · rw [h] at hg; cases hg
  · rw [h] at hg; cases hg; exact Nat.le_refl _

/-- An append to a row that lay there. -/
theorem kn_appO {kv : Value} {base size bytes n m : Nat} {e : TypeId} {inf : TypeInfo} {z : Value} {xs ys : List Value} (T : TypeId) (js : Nat) (s : Tmp) (x : Operand) (heat : eatB L = true) (hL : L[i]? = some (.rowO kv.ownBlock base e size (n + m) (xs ++ ys)))
    (ho : o.op = .call { callee := .builtin .append, args := #[.tmp s, x], argTypes := #[T, T] }) (hs : (js, s) ∈ news) (hjs : L[js]? = some (.v kv)) (hws : waitsB o js = true) (hsrc : SrcOK news olds L w0 o x size m ys)
    (ht : Tryz.prog.underlying T = some (.slice e)) (hinf : Tryz.prog.info? e = some inf) (hz : inf.zero = some z) (hsize : inf.size = size) (hby : inf.bytes = bytes) (hzs : z.cells.size = size) (hsz : 0 < size)
    (hown : w0.ownsRow base e size kv n xs) (hc1 : ∀ u ∈ ys, u.oneCell' = true) (h63 : n + m ≤ maxLen) (hbytes : (n + m) * bytes ≤ 140737488355328) (hbase : base ≤ w0.heap.size) : StepOKE Tryz.prog news olds (knE L) w0 i o := by
  unfold StepOKE
  rw [knE_at hL]
  refine ⟨(fun j hj => by cases hj), ?_⟩
  intro Q d u S w b K hp hdi hR hd he hK
  have es := (uses1 hs hjs hws).eval heat hp hR hd _ List.mem_cons_self
  simp only at es
  have hown' : w.ownsRow base e size kv n xs := row_same hown fun g hg => hp.block g (hown.lt g hg).2 fun j e' φ hj => by
    have hi : knE L i = .val kv.ownBlock none (RowIs base e size (n + m) (xs ++ ys)) := by rw [knE_at hL]; rfl
    rw [hg] at hi
    rw [knE_M heat j i e' none φ _ g hj hi]
    exact hdi
  obtain ⟨v', w', hr, h2, h3, h4⟩ := run_append_all (P := Tryz.prog) w T o.type base e inf z size bytes ht hinf hz hsize hby hzs hsz kv n xs hown' (b.eval x) m ys (hsrc d u S w b hp hR hd) hc1 h63 hbytes (Nat.le_trans hbase hp.size)
  refine wp_of_run v' (run_append_op _ _ T ho es rfl hr) (hK.out v' (fun g => v'.ownBlock = some g) w' kv.ownBlock h3 (fun b h => Or.inl h.symm) ⟨h2, fun g hg => hg⟩ (fun g hg => ?_))
  refine ⟨?_, (h2.lt g hg).2⟩
  rcases h4 with h | h
  · exact Or.inr (h.symm.trans hg)
  · rw [h] at hg; cases hg; exact Or.inl (Nat.le_refl _)

/-- An append to a row that another operation has made: its blocks are taken over. -/
theorem kn_app1 {base size bytes n m : Nat} {e' : Option Nat} {e : TypeId} {inf : TypeInfo} {z : Value} {xs ys : List Value} (T : TypeId) (js : Nat) (s : Tmp) (x : Operand) (hL : L[i]? = some (.row (some js) base e size (n + m) (xs ++ ys)))
    (ho : o.op = .call { callee := .builtin .append, args := #[.tmp s, x], argTypes := #[T, T] }) (hs : (js, s) ∈ news) (hjs : L[js]? = some (.row e' base e size n xs)) (hws : waitsB o js = true) (hsrc : SrcOK news olds L w0 o x size m ys)
    (ht : Tryz.prog.underlying T = some (.slice e)) (hinf : Tryz.prog.info? e = some inf) (hz : inf.zero = some z) (hsize : inf.size = size) (hby : inf.bytes = bytes) (hzs : z.cells.size = size) (hsz : 0 < size)
    (hc1 : ∀ u ∈ ys, u.oneCell' = true) (h63 : n + m ≤ maxLen) (hbytes : (n + m) * bytes ≤ 140737488355328) (hbase : base ≤ w0.heap.size) : StepOKE Tryz.prog news olds (knE L) w0 i o := by
  unfold StepOKE
  rw [knE_at hL]
  refine ⟨fun j hj d hd => ?_, ?_⟩
  · cases hj
    obtain ⟨e1, h4, h5, h6⟩ := waits_of hws
    rw [← h6]; exact hd e1 h4 h5
  intro Q d u S w b K hp hdi hR hd he hK
  obtain ⟨hdj, hlj⟩ := he js rfl
  obtain ⟨⟨hown, hSg⟩, _⟩ := hp.val js none e' (RowIs base e size n xs) (by rw [knE_at hjs]; rfl) hdj hlj
  have es := hR.1 _ hs
  obtain ⟨v', w', hr, h2, h3, h4⟩ := run_append_all (P := Tryz.prog) w T o.type base e inf z size bytes ht hinf hz hsize hby hzs hsz (u js) n xs hown (b.eval x) m ys (hsrc d u S w b hp hR hd) hc1 h63 hbytes (Nat.le_trans hbase hp.size)
  refine wp_of_run v' (run_append_op _ _ T ho es rfl hr) (hK.out v' (fun g => v'.ownBlock = some g) w' (u js).ownBlock h3 (fun b h => Or.inr ⟨js, rfl, hSg b h⟩) ⟨h2, fun g hg => hg⟩ (fun g hg => ?_))
  refine ⟨?_, (h2.lt g hg).2⟩
  rcases h4 with h | h
  · exact Or.inr (h.symm.trans hg)
  · rw [h] at hg; cases hg; exact Or.inl (Nat.le_refl _)

/-- A slice of what lay there, from its beginning on, or to its end. -/
theorem Src.keep {size m : Nat} {v2 : Value} {ys : List Value} {w w' : World} {B : Nat} (h : Src w size v2 m ys) (hb : ∀ ad n c, v2 = .slice (some ad) n c → ad.block = B) (hk : w'.heap[B]? = w.heap[B]?) : Src w' size v2 m ys := by
  rcases h with h | ⟨ad, c, rfl, h1, h2⟩
  · exact Or.inl h
  · have e := hb ad m c rfl
    refine Or.inr ⟨ad, c, rfl, h1, fun j u hj => ?_⟩
    rw [← h2 j u hj]
    refine World.cell?_of_block ?_
    have : (ad.add j).block = B := by unfold Addr.add; split <;> exact e
    rw [this]; exact hk
end

/-- The last operation of a region. -/
theorem wpAny_last {P : Program} {ops : Array Oper} {Q : Exit → Act → World → Prop} {listed : Array Bool} {a a1 : Act} {w w1 : World} (i : Nat) (oi : Oper) (hi : ops[i]? = some oi) (r1 : Region.ready .any ops listed = [i]) (r2 : Region.ready .any ops (listed.setIfInBounds i true) = [])
    (gi : oi.guard = none) (h1 : ∀ K : Act → World → Prop, K a1 w1 → Oper.wp P oi a w K Q) (hq : Q .normal a1 w1) : ∀ fuel, 1 ≤ fuel → wpAny P .any ops Q fuel listed a w := by
  intro fuel hf
  obtain ⟨f, rfl⟩ : ∃ f, fuel = f + 1 := ⟨fuel - 1, by omega⟩
  refine wpAny_all r1 (by simp) fun x hx => ?_
  obtain rfl : x = i := by simpa using hx
  unfold wpOp
  simp only [hi, Region.wanted, gi, if_true]
  exact .inl (h1 _ (wpAny_done r2 hq f))
/-- The last two, one behind the other. -/
theorem wpAny_two {P : Program} {ops : Array Oper} {Q : Exit → Act → World → Prop} {listed : Array Bool} {a a1 a2 : Act} {w w1 w2 : World} (i j : Nat) (oi oj : Oper) (hi : ops[i]? = some oi) (hj : ops[j]? = some oj) (r1 : Region.ready .any ops listed = [i]) (r2 : Region.ready .any ops (listed.setIfInBounds i true) = [j])
    (r3 : Region.ready .any ops ((listed.setIfInBounds i true).setIfInBounds j true) = []) (gi : oi.guard = none) (gj : oj.guard = none) (h1 : ∀ K : Act → World → Prop, K a1 w1 → Oper.wp P oi a w K Q) (h2 : ∀ K : Act → World → Prop, K a2 w2 → Oper.wp P oj a1 w1 K Q) (hq : Q .normal a2 w2) : ∀ fuel, 2 ≤ fuel → wpAny P .any ops Q fuel listed a w := by
  intro fuel hf
  obtain ⟨f, rfl⟩ : ∃ f, fuel = f + 2 := ⟨fuel - 2, by omega⟩
  refine wpAny_all r1 (by simp) fun x hx => ?_
  obtain rfl : x = i := by simpa using hx
  unfold wpOp
  simp only [hi, Region.wanted, gi, if_true]
  exact .inl (h1 _ (wpAny_last j oj hj r2 r3 gj h2 hq (f + 1) (by omega)))
end Go.Proofs.YtnaijgdffbfapaaGreatDoor

namespace Go.Proofs.YtnaijgdffbfapaaGreatDoor
open Go.RowKit

/-- A region that draws its order, some operations guarded, by a plan for the operations of T; a slot that only others write is as it was. -/
theorem planF_core {P : Program} {id : Nat} {ops : Array Oper} {Q : Exit → Act → World → Prop} {a : Act} {w : World} (nn m : Nat) (news : List (Nat × Tmp)) (olds : List (Tmp × Value)) (it : Nat → ItemE) (T : Nat → Bool) (hm : P.follows .mixedOrders = true)
    (hplan : planGB ops nn m news [] = true) (hol : ((olds.map (·.1)).all fun t => decide (t < m) && ops.toList.zipIdx.all fun q => !T q.2 || q.1.dst != some t) = true) (hsize : a.tmps.size = m) (holds : ∀ p ∈ olds, a.eval (.tmp p.1) = p.2)
    (hst : ∀ i M e φ, it i = .val M e φ → ∀ v S w w', φ v S w → Same S w w' → φ v S w')
    (hM : ∀ i j e e' φ ψ b, it i = .val (some b) e φ → it j = .val (some b) e' ψ → i = j) (hMlt : ∀ i e φ b, it i = .val (some b) e φ → b < w.heap.size)
    (hE : ∀ i j M φ, it i = .val M (some j) φ → M = none ∧ ∃ e ψ, it j = .val none e ψ) (hE1 : ∀ i k j M M' φ ψ, it i = .val M (some j) φ → it k = .val M' (some j) ψ → i = k)
    (hlast : ((List.range nn).all fun i => T i || (List.range nn).all fun j => !T j || reachB ops nn i j) = true)
    (hguard : ∀ (i : Nat) (o : Oper) (g : Nat) (want : Bool), ops[i]? = some o → T i = true → o.guard = some (g, want) → it g = .val none none (isV (.bool want)) ∧ (∀ k M φ, it k ≠ .val M (some g) φ) ∧ ∃ t, (g, t) ∈ news)
    (hone : ∀ i j b s s', it i = .put b s → it j = .put b s' → i = j)
    (hrest : ∀ i, nn ≤ i ∨ T i = false → it i = .val none none fun _ _ _ => True)
    (steps : ∀ i o, ops[i]? = some o → T i = true → StepOKE P news olds it w i o)
    (fin : ∀ u S w', PlanE it w (fun k => T k || decide (nn ≤ k)) u S w' → Reads news olds u (frameOf ops a u) → ∀ fuel listed, listed.size = nn → (∀ k, k < nn → listed.getD k true = T k) → unlisted listed.toList ≤ fuel → wpAny P .any ops Q fuel listed (frameOf ops a u) w') : (Code.region id ops true).wp P Q a w := by
  unfold planGB at hplan
  simp only [Bool.and_eq_true, decide_eq_true_eq] at hplan
  obtain ⟨⟨⟨⟨hn, hac⟩, hap⟩, hnews⟩, _⟩ := hplan
  have hA := apart_of _ hap
  have hin : ∀ i o, ops[i]? = some o → (o, i) ∈ ops.toList.zipIdx := fun i o ho => by
    rw [List.mem_zipIdx_iff_getElem?]
    simpa using ho
  have hF : ∀ i o, ops[i]? = some o → ∀ u v, (frameOf ops a u).put o.dst v = frameOf ops a (upd u i v) := fun i o ho u v => frameL_step _ a u o i v hA (hin i o ho)
  have hg : ∀ i o, ops[i]? = some o → (match o.guard with | none => true | some (g, _) => waitsB o g) = true ∧ ∀ e ∈ o.after, Region.binds .any e = true → e.on < i := by
    intro i o ho
    have h2 := (List.all_eq_true.1 hac) _ (hin i o ho)
    rw [Bool.and_eq_true] at h2
    refine ⟨h2.1, fun e he hb => ?_⟩
    have h3 := (Array.all_eq_true_iff_forall_mem.1 h2.2) e he
    simpa [hb] using h3
  obtain ⟨u0, eu0⟩ : ∃ u0 : Nat → Value, u0 = fun i => (((ops[i]?).bind (·.dst)).map fun t => a.tmps.getD t undef).getD undef := ⟨_, rfl⟩
  have hR : ∀ u, (∀ i, T i = false → u i = u0 i) → Reads news olds u (frameOf ops a u) := by
    intro u hu
    refine ⟨fun p hp => ?_, fun p hp => ?_⟩
    · have h1 := (List.all_eq_true.1 hnews) p hp
      simp only [Bool.and_eq_true, decide_eq_true_eq] at h1
      obtain ⟨h2, h3⟩ := h1
      split at h3
      · rename_i o ho
        exact frameL_new _ a u o p.1 p.2 hA (hin _ o ho) (by simpa using h3) (by rw [hsize]; exact h2)
      · cases h3
    · have h1 := (List.all_eq_true.1 hol) p.1 (List.mem_map.2 ⟨p, hp, rfl⟩)
      simp only [Bool.and_eq_true, decide_eq_true_eq] at h1
      obtain ⟨h2, h3⟩ := h1
      rw [← holds p hp]
      by_cases hex : ∃ (o : Oper) (i : Nat), ops[i]? = some o ∧ o.dst = some p.1
      · obtain ⟨o, i, ho, hd⟩ := hex
        have h4 := (List.all_eq_true.1 h3) _ (hin i o ho)
        simp only [hd, bne_self_eq_false, Bool.or_false, Bool.not_eq_true'] at h4
        have h5 := frameL_new _ a u o i p.1 hA (hin _ o ho) hd (by rw [hsize]; exact h2)
        have h6 : u i = a.tmps.getD p.1 undef := by rw [hu i h4, eu0]; simp [ho, hd]
        exact h5.trans h6
      · refine frameL_old _ a u p.1 fun q hq => ?_
        obtain ⟨o, i⟩ := q
        rw [List.mem_zipIdx_iff_getElem?] at hq
        exact fun e => hex ⟨o, i, by simpa using hq, e⟩
  have hbs : ∀ j b' s', it j = .put b' s' → ∃ t n, it b' = .box t n := by
    intro j b' s' hj
    rcases Nat.lt_or_ge j ops.size with hlt | hge
    · cases hT : T j with
      | false => rw [hrest j (Or.inr hT)] at hj; cases hj
      | true =>
        obtain ⟨o, ho⟩ : ∃ o, ops[j]? = some o := ⟨ops[j], by simp [hlt]⟩
        have h := steps j o ho hT
        unfold StepOKE at h
        rw [hj] at h
        obtain ⟨⟨t, n, M, e, φ, h1, _⟩, _⟩ := h
        exact ⟨t, n, h1⟩
    · rw [hrest j (Or.inl (by omega))] at hj; cases hj
  have hlast' : ∀ i o, ops[i]? = some o → T i = false → ∀ j, j < ops.size → T j = true → ∃ n, reachB ops n i j = true := by
    intro i o ho hTi j hj hTj
    have hi := (Array.getElem?_eq_some_iff.1 ho).1
    have h1 := (List.all_eq_true.1 hlast) i (List.mem_range.2 (by omega))
    rw [hTi, Bool.false_or] at h1
    have h2 := (List.all_eq_true.1 h1) j (List.mem_range.2 (by omega))
    rw [hTj, Bool.not_true, Bool.false_or] at h2
    exact ⟨nn, h2⟩
  have hu0 : frameOf ops a u0 = a := by
    rw [eu0]
    refine frameL_self _ a _ fun p hp => ?_
    obtain ⟨o, i⟩ := p
    rw [List.mem_zipIdx_iff_getElem?] at hp
    have ho : ops[i]? = some o := by simpa using hp
    simp [ho]
  rw [← hu0]
  refine wp_region_any hm (wpAny_of_steps T (fun d a1 w' => ∃ u S, a1 = frameOf ops a u ∧ PlanE it w d u S w' ∧ ∀ i, T i = false → u i = u0 i) (fun i o ho => (hg i o ho).2) hlast' ?_ ?_ _ _ _ _ (by simp) ?_ ?_ ?_ ?_)
  · rintro i o ho hTi d d' a1 w1 ⟨u, S, rfl, hp, hu⟩ hdi hdeps hd'i hd'
    have hup : ∀ v k, T k = false → upd u i v k = u0 k := fun v k hk => by rw [upd_ne u v (show k ≠ i by intro e; subst e; rw [hTi] at hk; cases hk)]; exact hu k hk
    have h := steps i o ho hTi
    have hw : Region.wanted o (yielded ops (frameOf ops a u).tmps) = true := by
      unfold Region.wanted
      cases hgo : o.guard with
      | none => rfl
      | some gw =>
        obtain ⟨g, want⟩ := gw
        have h1 := (hg i o ho).1
        rw [hgo] at h1
        obtain ⟨e, he, hb, hon⟩ := waits_of h1
        have hdg : d g = true := by rw [← hon]; exact hdeps e he hb
        obtain ⟨h2, hne, t, hmem⟩ := hguard i o g want ho hTi hgo
        have h3 : u g = .bool want := (hp.val g _ _ _ h2 hdg (fun k M φ hk => absurd hk (hne k M φ))).1
        have h4 := (hR u hu).1 _ hmem
        have h5 := (List.all_eq_true.1 hnews) _ hmem
        simp only [Bool.and_eq_true, decide_eq_true_eq] at h5
        obtain ⟨h6, h7⟩ := h5
        split at h7
        · rename_i o' ho'
          have h8 : o'.dst = some t := by simpa using h7
          have h9 : (frameOf ops a u).tmps[t]? = some (.bool want) := by
            have hlt : t < (frameOf ops a u).tmps.size := by rw [frameOf_size, hsize]; exact h6
            have h10 : (frameOf ops a u).tmps.getD t undef = .bool want := by
              have : (frameOf ops a u).eval (.tmp t) = (frameOf ops a u).tmps.getD t undef := rfl
              rw [← this, h4, h3]
            simpa [hlt] using h10
          simp only [yielded, ho', Option.bind_some, h8, h9, beq_self_eq_true]
        · cases h7
    unfold wpOp
    simp only [ho, hw, if_true]
    refine .inl ?_
    unfold StepOKE at h
    cases hi : it i with
    | val M e φ =>
      rw [hi] at h
      have he : ∀ j, e = some j → d j = true ∧ Live it d j := fun j hj => by
        subst hj
        refine ⟨h.1 j rfl d hdeps, fun k M' ψ hk => ?_⟩
        have := hE1 i k j M M' φ ψ hi hk
        subst this
        exact hdi
      exact h.2 _ d u S w1 _ _ hp hdi (hR u hu) hdeps he fun v S' w' row hb hrow hφ hS => ⟨upd u i v, upd S i S', hF i o ho u v, hp.step_val hd' hdi hd'i (fun k hk => upd_ne u v hk) hst hM hMlt hE hbs hi he hb hrow (by rw [upd_same]; exact hφ) hS, hup v⟩
    | box t n =>
      rw [hi] at h
      obtain ⟨z, hn, hop, hz⟩ := h
      exact wp_alloc_box t z hop hz ⟨upd u i _, S, hF i o ho u _, hp.step_box hd' hdi hd'i (fun k hk => upd_ne u _ hk) hst hi hn (upd_same u i _), hup _⟩
    | put b s =>
      rw [hi] at h
      obtain ⟨⟨t, n, M, e, φ, hb, hs, hlvs, hag⟩, ⟨e1, he1, hb1, ho1⟩, ⟨e2, he2, hb2, ho2⟩, ty, x, y, hop, hx, hy, hinfo, hdst⟩ := h
      have hdb : d b = true := by rw [← ho1]; exact hdeps e1 he1 hb1
      have hds : d s = true := by rw [← ho2]; exact hdeps e2 he2 hb2
      obtain ⟨N, old, h1, h2, h3, h4⟩ := hp.box b t n hb hdb
      obtain ⟨cs, hcs, hsz, hone1⟩ := hag _ _ _ (hp.val s M e φ hs hds (fun k M φ hk => absurd hk (hlvs k M φ))).1
      refine wp_store_row ty (.tmp x) (.tmp y) hop N cs (((hR u hu).1 _ hx).trans h1) (((hR u hu).1 _ hy).trans hcs) t old h3 (by rw [hinfo t n hb, hsz]) (by omega) hone1 ?_
      exact ⟨upd u i undef, S, hF i o ho u undef, hp.step_put hd' hdi hd'i (fun k hk => upd_ne u _ hk) hst hbs hi hb hdb hds h1 hcs hsz (fun j b' s' hj hjb => by subst hjb; exact hone j i b' s' s hj hi), hup undef⟩
  · rintro d a1 w' hall ⟨u, S, rfl, hp, hu⟩ fuel listed hsz hl hf
    have e : d = fun k => T k || decide (nn ≤ k) := funext fun k => by rw [hall k, hn]
    subst e
    exact fin u S w' hp (hR u hu) fuel listed (by omega) (fun k hk => hl k (by omega)) hf
  · simp [unlisted]
  · intro k o ho hk
    have := (Array.getElem?_eq_some_iff.1 ho).1
    simp [this] at hk
  · intro k hk _
    simp [hk]
  · refine ⟨u0, fun _ _ => False, rfl, ⟨rfl, rfl, rfl, Nat.le_refl _, fun _ _ _ => rfl, fun i M e φ hi hd _ => ?_, fun i t n hi hd => ?_, fun i b s hi hd => ?_, fun i j t n t' n' hi _ hd _ _ => ?_, fun i M e φ j t n N _ hj _ hd _ _ => ?_, fun i j M e φ M' e' ψ hi _ hd _ _ _ _ b hb => hb.elim⟩, fun _ _ => rfl⟩
    all_goals
      have hge : ∀ k, (Array.replicate ops.size false).getD k true = true → nn ≤ k := fun k hk => by
        rcases Nat.lt_or_ge k ops.size with h | h
        · simp [h] at hk
        · omega
    · have := hrest i (Or.inl (hge i hd))
      rw [hi] at this; cases this
      exact ⟨trivial, fun b hb => hb.elim⟩
    · have := hrest i (Or.inl (hge i hd))
      rw [hi] at this; cases this
    · have := hrest i (Or.inl (hge i hd))
      rw [hi] at this; cases this
    · have := hrest i (Or.inl (hge i hd))
      rw [hi] at this; cases this
    · have := hrest j (Or.inl (hge j hd))
      rw [hj] at this; cases this


/-- A region that draws its order, by a list of what its first operations are good for; the others wait for all of these; what only they write is as it was. -/
theorem planKF {P : Program} {id : Nat} {ops : Array Oper} {Q : Exit → Act → World → Prop} {a : Act} {w : World} (nn m : Nat) (news : List (Nat × Tmp)) (olds : List (Tmp × Value)) (L : List KnE) (hm : P.follows .mixedOrders = true)
    (hplan : planGB ops nn m news [] = true) (hol : ((olds.map (·.1)).all fun t => decide (t < m) && ops.toList.zipIdx.all fun q => !decide (q.2 < L.length) || q.1.dst != some t) = true) (hsize : a.tmps.size = m) (holds : ∀ p ∈ olds, a.eval (.tmp p.1) = p.2) (hng : (ops.toList.all fun o => o.guard.isNone) = true) (heat : eatB L = true) (hLn : L.length ≤ nn)
    (hMlt : ∀ k ∈ L, ∀ b, k.old = some b → b < w.heap.size)
    (hlast : ((List.range nn).all fun i => decide (i < L.length) || (List.range nn).all fun j => !decide (j < L.length) || reachB ops nn i j) = true)
    (steps : ∀ i o, ops[i]? = some o → i < L.length → StepOKE P news olds (knE L) w i o)
    (fin : ∀ u S w', PlanE (knE L) w (fun k => decide (k < L.length) || decide (nn ≤ k)) u S w' → Reads news olds u (frameOf ops a u) → ∀ fuel listed, listed.size = nn → (∀ k, k < nn → listed.getD k true = decide (k < L.length)) → unlisted listed.toList ≤ fuel → wpAny P .any ops Q fuel listed (frameOf ops a u) w') : (Code.region id ops true).wp P Q a w :=
  planF_core nn m news olds (knE L) (fun k => decide (k < L.length)) hm hplan hol hsize holds (knE_st L) (knE_M heat)
    (fun i e φ b hi => by
      rcases knE_some hi with ⟨k, hk, hM, _, _⟩ | ⟨_, hM, _, _⟩
      · exact hMlt k (List.mem_of_getElem? hk) b hM.symm
      · cases hM)
    (knE_E heat) (knE_E1 heat) hlast
    (fun i o g want ho _ hg => by
      have := (List.all_eq_true.1 hng) o (by simpa using Array.mem_of_getElem? ho)
      rw [hg] at this; cases this)
    (fun i j b s s' hi _ => absurd hi knE_put)
    (fun i hi => by
      rcases hi with h | h
      · exact knE_rest L i (by omega)
      · exact knE_rest L i (by simpa using h))
    (fun i o ho hT => steps i o ho (by simpa using hT)) fin
end Go.Proofs.YtnaijgdffbfapaaGreatDoor

namespace Go.Proofs.YtnaijgdffbfapaaGreatDoor
open Go.RowKit

/-- A new box. -/
def IsBox (cs : Array Value) (t : TypeId) : Value → (Nat → Prop) → World → Prop := fun v S w => ∃ N, v = .pointer (some ⟨N, 0, none⟩) ∧ S N ∧ w.heap[N]? = some (.cells cs t (0, 0))
theorem isBox_st {cs : Array Value} {t : TypeId} : ∀ v S w w', IsBox cs t v S w → Same S w w' → IsBox cs t v S w' := fun _ _ _ _ ⟨N, e, h1, h2⟩ hs => ⟨N, e, h1, (hs N h1).trans h2⟩
/-- An array of one Value in a block of its own. -/
def ArrOne (x : VC) : Value → (Nat → Prop) → World → Prop := fun v S w => ∃ N, v = VC.val ⟨5, 0, ByteArray.empty, some ⟨N, 0, none⟩, 1, 1, none, 0, 0, none, 0, 0⟩ ∧ S N ∧ w.heap[N]? = some (.cells x.arr 26 (0, 0))
theorem arrOne_st {x : VC} : ∀ v S w w', ArrOne x v S w → Same S w w' → ArrOne x v S w' := fun _ _ _ _ ⟨N, e, h1, h2⟩ hs => ⟨N, e, h1, (hs N h1).trans h2⟩

section
variable {news : List (Nat × Tmp)} {olds : List (Tmp × Value)} {L : List KnE} {w0 : World} {i : Nat} {o : Oper}

theorem planE_low {d : Nat → Bool} {u : Nat → Value} {S : Nat → Nat → Prop} {w : World} (hp : PlanE (knE L) w0 d u S w) (hno : (L.all fun k => k.old.isNone) = true) : Below w0.heap.size w0 w :=
  hp.low fun j M e φ hj => by
    rcases knE_some hj with ⟨k, hk, hM, _, _⟩ | ⟨_, hM, _, _⟩
    · have := (List.all_eq_true.1 hno) k (List.mem_of_getElem? hk)
      rw [hM]
      exact Option.isNone_iff_eq_none.1 this
    · exact hM
theorem live_of {d : Nat → Bool} {j : Nat} (hne : (L.all fun k => k.eats != some j) = true) : Live (knE L) d j := fun k M φ hk => by
  rcases knE_some hk with ⟨q, hq, _, he, _⟩ | ⟨_, _, he, _⟩
  · have := (List.all_eq_true.1 hne) q (List.mem_of_getElem? hq)
    rw [← he] at this
    simp at this
  · cases he

/-- A call of known arguments. -/
theorem kn_callG {k : KnE} {φ : Value → (Nat → Prop) → World → Prop} (f : FuncId) (xs : Array Operand) (ts : Array TypeId) (vs : Array Value) (uses : List (Nat × Tmp × Value)) (hf : Enters Tryz.prog f) (heat : eatB L = true) (hno : (L.all fun k => k.old.isNone) = true) (hL : L[i]? = some k) (hk : k.item = .val none none φ)
    (ho : o.op = .call { callee := .value (.func f), args := xs, argTypes := ts }) (hu : Uses news L o uses) (hvs : ∀ b : Act, (∀ p ∈ uses, b.eval (.tmp p.2.1) = p.2.2) → xs.map b.eval = vs)
    (hc : ∀ w, Below w0.heap.size w0 w → Calls Tryz.prog f vs w fun e w' => ∃ v S', e = .returned v ∧ φ v S' w' ∧ (∀ b, S' b → w.heap.size ≤ b ∧ b < w'.heap.size) ∧ Below w.heap.size w w') : StepOKE Tryz.prog news olds (knE L) w0 i o := by
  unfold StepOKE
  rw [knE_at hL, hk]
  refine ⟨(fun j hj => by cases hj), ?_⟩
  intro Q d u S w b K hp hdi hR hd he hK
  refine wp_call_fn f _ ts vs hf ho (hvs b (hu.eval heat hp hR hd)) ((hc w (planE_low hp hno)).mono ?_)
  rintro e w' ⟨v, S', rfl, hφ, hS, hb⟩
  exact ⟨_, rfl, hK.out _ S' w' none (grown_of_below0 hb _) (fun b h => by cases h) hφ (fun g hg => ⟨Or.inl (hS g hg).1, (hS g hg).2⟩)⟩

/-- A call of a known argument and of one that another operation has made. -/
theorem kn_callX {k : KnE} {e1 : Option Nat} {φ ψ : Value → (Nat → Prop) → World → Prop} {st : ∀ v S w w', ψ v S w → Same S w w' → ψ v S w'} {X : Value} (f : FuncId) (jx jy : Nat) (x y : Tmp) (ts : Array TypeId) (hf : Enters Tryz.prog f) (heat : eatB L = true) (hno : (L.all fun k => k.old.isNone) = true) (hL : L[i]? = some k) (hk : k.item = .val none none φ)
    (ho : o.op = .call { callee := .value (.func f), args := #[.tmp x, .tmp y], argTypes := ts }) (hx : (jx, x) ∈ news) (hjx : L[jx]? = some (.v X)) (hwx : waitsB o jx = true)
    (hy : (jy, y) ∈ news) (hjy : L[jy]? = some (.gen e1 ψ st)) (hwy : waitsB o jy = true) (hne : (L.all fun k => k.eats != some jy) = true)
    (hc : ∀ w vy Sy, Below w0.heap.size w0 w → ψ vy Sy w → (∀ b, Sy b → w0.heap.size ≤ b ∧ b < w.heap.size) → Calls Tryz.prog f #[X, vy] w fun e w' => ∃ v S', e = .returned v ∧ φ v S' w' ∧ (∀ b, S' b → w.heap.size ≤ b ∧ b < w'.heap.size) ∧ Below w.heap.size w w') : StepOKE Tryz.prog news olds (knE L) w0 i o := by
  unfold StepOKE
  rw [knE_at hL, hk]
  refine ⟨(fun j hj => by cases hj), ?_⟩
  intro Q d u S w b K hp hdi hR hd he hK
  have ex := (uses1 hx hjx hwx).eval heat hp hR hd _ List.mem_cons_self
  simp only at ex
  obtain ⟨e2, h4, h5, h6⟩ := waits_of hwy
  obtain ⟨hψ, hSy⟩ := hp.val jy none e1 ψ (by rw [knE_at hjy]; rfl) (by rw [← h6]; exact hd e2 h4 h5) (live_of hne)
  have ey := hR.1 _ hy
  simp only at ey
  refine wp_call_fn f _ ts #[X, u jy] hf ho (by simp only [List.map_toArray, List.map_cons, List.map_nil, ex, ey]) ((hc w (u jy) (S jy) (planE_low hp hno) hψ (fun b hb => ⟨(hSy b hb).1.elim (fun h => h) (fun h => by cases h), (hSy b hb).2⟩)).mono ?_)
  rintro e w' ⟨v, S', rfl, hφ, hS, hb⟩
  exact ⟨_, rfl, hK.out _ S' w' none (grown_of_below0 hb _) (fun b h => by cases h) hφ (fun g hg => ⟨Or.inl (hS g hg).1, (hS g hg).2⟩)⟩

theorem kn_alloc (t : TypeId) (z : Value) (hL : L[i]? = some (.gen none (IsBox z.cells t) isBox_st)) (ho : o.op = .alloc t) (hz : ∀ w, (zeroValue t).run Tryz.prog w = .ok z w) : StepOKE Tryz.prog news olds (knE L) w0 i o := by
  unfold StepOKE
  rw [knE_at hL]
  refine ⟨(fun j hj => by cases hj), ?_⟩
  intro Q d u S w b K hp hdi hR hd he hK
  refine wp_alloc_box t z ho hz (hK.out _ (fun g => g = w.heap.size) _ none (World.grownBy_alloc _ _ _) (fun b h => by cases h) ⟨w.heap.size, rfl, rfl, heap_alloc_new _ _⟩ (fun g hg => ?_))
  subst hg
  exact ⟨Or.inl (Nat.le_refl _), by simp⟩

/-- An array of one Value. -/
theorem kn_larrOne {x : VC} (js : Nat) (s : Tmp) (ts : Array TypeId) (hf : Enters Tryz.prog 8) (hL : L[i]? = some (.gen (some js) (ArrOne x) arrOne_st)) (ho : o.op = .call { callee := .value (.func 8), args := #[.tmp s], argTypes := ts })
    (hs : (js, s) ∈ news) (hjs : L[js]? = some (.one x.arr 26)) (hws : waitsB o js = true) : StepOKE Tryz.prog news olds (knE L) w0 i o := by
  unfold StepOKE
  rw [knE_at hL]
  refine ⟨fun j hj d hd => ?_, ?_⟩
  · cases hj
    obtain ⟨e1, h4, h5, h6⟩ := waits_of hws
    rw [← h6]; exact hd e1 h4 h5
  intro Q d u S w b K hp hdi hR hd he hK
  obtain ⟨hdj, hlj⟩ := he js rfl
  obtain ⟨⟨N, hv, hSN, hcell⟩, hSb⟩ := hp.val js none none (OneSlice x.arr 26) (by rw [knE_at hjs]; rfl) hdj hlj
  have es := (hR.1 _ hs).trans hv
  simp only at es
  refine wp_call_fn 8 _ ts #[.slice (some ⟨N, 0, none⟩) 1 1] hf ho (by simp only [List.map_toArray, List.map_cons, List.map_nil, es]) ((larray_any _ 1 1 w).mono ?_)
  rintro e w' ⟨rfl, hb⟩
  refine ⟨_, rfl, hK.out _ (fun g => g = N) w' (some N) (grown_of_below0 hb _) (fun b h => by cases h; exact Or.inr ⟨js, rfl, hSN⟩) ⟨N, rfl, rfl, (hb.block N (hSb N hSN).2).trans hcell⟩ (fun g hg => ?_)⟩
  subst hg
  exact ⟨Or.inr rfl, Nat.lt_of_lt_of_le (hSb g hSN).2 hb.size⟩
theorem kn_len {a : Option Addr} {n c : Nat} (j : Nat) (x : Tmp) (heat : eatB L = true) (hL : L[i]? = some (.v (.int .i64 (n : Int)))) (ho : o.op = .call { callee := .builtin .len, args := #[.tmp x], argTypes := #[23] }) (hx : (j, x) ∈ news) (hj : L[j]? = some (.v (.slice a n c))) (hw : waitsB o j = true) : StepOKE Tryz.prog news olds (knE L) w0 i o :=
  step_kn [(j, x, _)] heat hL (uses1 hx hj hw) fun b w e _ _ => by
    have e1 := e _ List.mem_cons_self
    simp only at e1
    unfold execOp
    simp only [ho, resolve, invoke, builtin, Sem.run_bind, Sem.run_pure, Result.andThen_ok, List.map_toArray, List.map_cons, List.map_nil, e1]
    go_simp
theorem kn_sub1 {n m : Nat} (hm : n = m + 1) (hlt : n ≤ 1000000) (j : Nat) (x : Tmp) (heat : eatB L = true) (hL : L[i]? = some (.v (.int .i64 (m : Int)))) (ho : o.op = .binOp .sub 3 (.tmp x) (.const (.int .i64 1)) 3) (hx : (j, x) ∈ news) (hj : L[j]? = some (.v (.int .i64 (n : Int)))) (hw : waitsB o j = true) : StepOKE Tryz.prog news olds (knE L) w0 i o :=
  step_kn [(j, x, _)] heat hL (uses1 hx hj hw) fun b w e _ _ => by
    have e1 := e _ List.mem_cons_self
    simp only at e1
    subst hm
    have hc : ((m + 1 : Nat) : Int) - 1 = (m : Int) := by omega
    unfold execOp
    simp only [ho, e1]
    go_simp
    exact IntWalk.i64_in _ (by omega)
end
end Go.Proofs.YtnaijgdffbfapaaGreatDoor
