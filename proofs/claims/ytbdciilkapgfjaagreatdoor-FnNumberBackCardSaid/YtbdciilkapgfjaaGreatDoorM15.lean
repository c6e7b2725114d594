/- append of a row that a callee made; rows of Values that read as a list. A part of the proof. A part of the proof. -/
import Derived.Test.YtbdciilkapgfjaaGreatDoorM13
import Derived.Laws.AppendOwnNone
import Derived.Test.YtbdciilkapgfjaaGreatDoorZPlanE
import Derived.Maps.AppendAt
namespace Go.Proofs.YtbdciilkapgfjaaGreatDoor
open Go.RowKit

section
variable {P : Program} {w : World} {ops : Array Oper} {rest : List Oper} {o : Oper} {a : Act} {Q : Exit → Act → World → Prop}
/-- append of a whole row that a callee made, nil or not. -/
theorem wpList_append_row (hgd : o.guard = none) (s x : Operand) (t : TypeId) (ho : o.op = .call { callee := .builtin .append, args := #[s, x], argTypes := #[t, t] })
    (base : Nat) (e : TypeId) (i : TypeInfo) (z : Value) (size bytes : Nat) (ht : P.underlying t = some (.slice e)) (hi : P.info? e = some i) (hz : i.zero = some z)
    (hsize : i.size = size) (hby : i.bytes = bytes) (hzs : z.cells.size = size) (hsz : 0 < size)
    (v : Value) (n : Nat) (xs : List Value) (hs : a.eval s = v) (hown : w.ownsRow base e size v n xs)
    (v2 : Value) (n2 base2 : Nat) (ys : List Value) (hx : a.eval x = v2) (hown2 : w.ownsRow base2 e size v2 n2 ys) (h1 : ∀ u ∈ ys, u.oneCell' = true)
    (h63 : n + n2 ≤ maxLen) (hbytes : (n + n2) * bytes ≤ 140737488355328) (hbase : base ≤ w.heap.size)
    (h : ∀ v' w', w'.ownsRow base e size v' (n + n2) (xs ++ ys) → w.grownBy w' v.ownBlock → (v'.ownBlock = v.ownBlock ∨ v'.ownBlock = some w.heap.size) → wpList P ops Q rest (a.put o.dst v') w') : wpList P ops Q (o :: rest) a w := by
  rcases hown2.2 with ⟨rfl, rfl⟩ | ⟨g, cap, cur, rfl, _, _, _⟩
  · obtain rfl : ys = [] := List.eq_nil_of_length_eq_zero (by simpa using hown2.1)
    refine wpList_append_own_none hgd s x t ho base e i size ht hi v n xs hs hown hx (h v w (by simpa using hown) (grown_of_below0 (Below.refl _ _) _) (Or.inl rfl))
  · exact wpList_append_own_at w hgd s x t ho base e i z size bytes ht hi hz hsize hby hzs hsz v n xs hs hown ⟨g, 0, none⟩ n2 cap ys hx hown2.1 (hown2.cells (g := g) rfl) h1 h63 hbytes hbase (fun v' w' h2 h3 _ h5 => h v' w' h2 h3 h5)
end

/-- Values in a row that a call owns, each a reading in blocks of S. -/
def VRow (lo : Nat) (S : Nat → Prop) (l : List J) (v : Value) (xs : List VC) (w : World) : Prop :=
  w.ownsRow lo 26 6 v xs.length (cellsOf xs) ∧ xs.length = l.length ∧ ∀ i (_ : i < l.length) (h : i < xs.length), VR w S l[i] xs[i]
theorem VRow.nil (lo : Nat) (S : Nat → Prop) (w : World) : VRow lo S [] (.slice none 0 0) [] w := ⟨World.ownsRow_nil _ _ _ _, rfl, fun i h => absurd h (Nat.not_lt_zero i)⟩
theorem VRow.form {lo : Nat} {S : Nat → Prop} {l : List J} {v : Value} {xs : List VC} {w : World} (h : VRow lo S l v xs w) : ∃ a cap, v = .slice a l.length cap := by
  obtain ⟨h1, h2, _⟩ := h
  rcases h1.2 with ⟨rfl, h0⟩ | ⟨g, cap, cur, rfl, _⟩
  · exact ⟨none, 0, by rw [← h2, h0]⟩
  · exact ⟨some ⟨g, 0, none⟩, cap, by rw [h2]⟩
theorem row_form {w : World} {base size : Nat} {e : TypeId} {v : Value} {n : Nat} {xs : List Value} (h : w.ownsRow base e size v n xs) : ∃ a cap, v = .slice a n cap := by
  rcases h.2 with ⟨rfl, h0⟩ | ⟨g, cap, cur, rfl, _⟩
  · exact ⟨none, 0, by rw [h0]⟩
  · exact ⟨some ⟨g, 0, none⟩, cap, rfl⟩
theorem VRow.go {lo : Nat} {S S' : Nat → Prop} {l : List J} {v : Value} {xs : List VC} {w w' : World} (h : VRow lo S l v xs w) (hr : w'.ownsRow lo 26 6 v xs.length (cellsOf xs)) (hb : Same S w w') (hS : ∀ b, S b → S' b) : VRow lo S' l v xs w' :=
  ⟨hr, h.2.1, fun i hi hx => (h.2.2 i hi hx).go hb hS⟩
theorem VRow.append {lo : Nat} {S : Nat → Prop} {l l' : List J} {v : Value} {xs ys : List VC} {w : World} (hr : w.ownsRow lo 26 6 v (xs.length + ys.length) (cellsOf xs ++ cellsOf ys)) (h1 : xs.length = l.length) (h2 : ys.length = l'.length)
    (hx : ∀ i (_ : i < l.length) (h : i < xs.length), VR w S l[i] xs[i]) (hy : ∀ i (_ : i < l'.length) (h : i < ys.length), VR w S l'[i] ys[i]) : VRow lo S (l ++ l') v (xs ++ ys) w := by
  refine ⟨by rw [List.length_append, cellsOf_append]; exact hr, by simp [h1, h2], fun i hi hx' => ?_⟩
  rcases Nat.lt_or_ge i l.length with h | h
  · rw [List.getElem_append_left h, List.getElem_append_left (by omega)]
    exact hx i h (by omega)
  · rw [List.getElem_append_right h, List.getElem_append_right (by omega)]
    simp only [h1]
    exact hy (i - l.length) (by simp at hi; omega) (by simp at hx'; omega)
theorem cells_one (xs : List VC) : ∀ u ∈ cellsOf xs, u.oneCell' = true := by
  intro u hu
  simp only [cellsOf, List.mem_flatMap] at hu
  obtain ⟨c, _, hc⟩ := hu
  exact arr_cells c u hc

/-- An array read off a row. -/
theorem VRow.vr {lo : Nat} {S : Nat → Prop} {l : List J} {a : Option Addr} {n cap : Nat} {xs : List VC} {w : World} (h : VRow lo S l (.slice a n cap) xs w) (c : VC) (hk : c.k = 5) (hh : c.h = 0) (hs : c.s = ByteArray.empty) (ha : c.la = a) (hl : c.ll = n) (hn : n = l.length) (hkl : c.kl = 0) (hvl : c.vl = 0) (hlc : c.lc = cap) (hkc : c.kc = 0) (hvc : c.vc = 0) :
    VR w (fun b => S b ∨ (lo ≤ b ∧ b < w.heap.size)) (.arr l) c := by
  rw [VR]
  refine ⟨⟨hk, hh, hs, by rw [hl, hn]; rfl, hkl, hvl, by rw [hl, hlc]; have h1 := h.1; rw [h.2.1, ← hn] at h1; exact own_cap h1, by rw [hkl]; exact Nat.zero_le _, by rw [hvl]; exact Nat.zero_le _, by rw [ha, hlc]; have h1 := h.1; rw [h.2.1, ← hn] at h1; exact own_none h1, fun _ => hkc, fun _ => hvc⟩, fun i hi => ?_, fun i hi => ?_, fun i hi => ?_⟩
  · have hi' : i < l.length := hi
    have hx' : i < xs.length := by have := h.2.1; omega
    obtain ⟨g, cap', e, hg, hlt⟩ := h.1.form (by omega)
    cases e
    have h6 := row_at6 h.1 (g := g) rfl hx'
    exact ⟨g, 0, xs[i], ha, Or.inr ⟨hg, hlt⟩, by simpa using h6, (h.2.2 i hi' hx').mono (fun b hb => Or.inl hb)⟩
  · simp [J.ents] at hi
  · simp [J.ents] at hi
end Go.Proofs.YtbdciilkapgfjaaGreatDoor

namespace Go.Proofs.YtbdciilkapgfjaaGreatDoor
open Go.RowKit

/-- A row that a call owns. -/
def RowIs (base : Nat) (t : TypeId) (size n : Nat) (xs : List Value) : Value → (Nat → Prop) → World → Prop := fun v S w => w.ownsRow base t size v n xs ∧ ∀ g, v.ownBlock = some g → S g
theorem rowIs_st {base size n : Nat} {t : TypeId} {xs : List Value} {v : Value} {S : Nat → Prop} {w w' : World} (h : RowIs base t size n xs v S w) (hs : Same S w w') : RowIs base t size n xs v S w' :=
  ⟨row_same h.1 fun g hg => hs g (h.2 g hg), h.2⟩
/-- An array of Values over a row that a call owns. -/
def ArrIs (base n : Nat) (xs : List Value) : Value → (Nat → Prop) → World → Prop := fun v S w => ∃ a cap, v = VC.val ⟨5, 0, ByteArray.empty, a, n, cap, none, 0, 0, none, 0, 0⟩ ∧ RowIs base 26 6 n xs (.slice a n cap) S w

/-- What an operation is good for. -/
inductive KnE where
  | v (x : Value)
  | one (cs : Array Value) (t : TypeId)
  | row (e : Option Nat) (base : Nat) (t : TypeId) (size n : Nat) (xs : List Value)
  | rowO (M : Option Nat) (base : Nat) (t : TypeId) (size n : Nat) (xs : List Value)
  | arr (j base n : Nat) (xs : List Value)
  | r (j : J)
  | gen (e : Option Nat) (φ : Value → (Nat → Prop) → World → Prop) (st : ∀ v S w w', φ v S w → Same S w w' → φ v S w')
  | genO (M : Nat) (φ : Value → (Nat → Prop) → World → Prop) (st : ∀ v S w w', φ v S w → Same S w w' → φ v S w')
def KnE.phi : KnE → Value → (Nat → Prop) → World → Prop
  | .v x => isV x
  | .one cs t => OneSlice cs t
  | .row _ base t size n xs => RowIs base t size n xs
  | .rowO _ base t size n xs => RowIs base t size n xs
  | .arr _ base n xs => ArrIs base n xs
  | .r j => ResIs j
  | .gen _ φ _ => φ
  | .genO _ φ _ => φ
def KnE.eats : KnE → Option Nat | .row e .. => e | .arr j .. => some j | .gen e .. => e | _ => none
def KnE.old : KnE → Option Nat | .rowO M .. => M | .genO M .. => some M | _ => none
def KnE.isOld : KnE → Bool | .rowO .. => true | .genO .. => true | _ => false
def KnE.item (k : KnE) : ItemE := .val k.old k.eats k.phi
def knE (L : List KnE) : Nat → ItemE := fun i => match L[i]? with | some k => k.item | none => .val none none fun _ _ _ => True
theorem knE_some {L : List KnE} {i : Nat} {M e : Option Nat} {φ : Value → (Nat → Prop) → World → Prop} (h : knE L i = .val M e φ) : (∃ k, L[i]? = some k ∧ M = k.old ∧ e = k.eats ∧ φ = k.phi) ∨ (L[i]? = none ∧ M = none ∧ e = none ∧ φ = fun _ _ _ => True) := by
  unfold knE at h
  split at h
  · rename_i k hk
    unfold KnE.item at h
    cases h
    exact Or.inl ⟨k, hk, rfl, rfl, rfl⟩
  · rename_i hn
    cases h
    exact Or.inr ⟨hn, rfl, rfl, rfl⟩
theorem KnE.st (k : KnE) {v : Value} {S : Nat → Prop} {w w' : World} (h : k.phi v S w) (hs : Same S w w') : k.phi v S w' := by
  cases k with
  | v x => exact h
  | one cs t => exact one_stable h hs
  | row e base t size n xs => exact rowIs_st h hs
  | rowO M base t size n xs => exact rowIs_st h hs
  | arr j base n xs => obtain ⟨a, cap, e, h⟩ := h; exact ⟨a, cap, e, rowIs_st h hs⟩
  | r j => exact ResIs.st j _ _ _ _ h hs
  | gen e φ st => exact st _ _ _ _ h hs
  | genO M φ st => exact st _ _ _ _ h hs
theorem knE_st (L : List KnE) : ∀ i M e φ, knE L i = .val M e φ → ∀ v S w w', φ v S w → Same S w w' → φ v S w' := by
  intro i M e φ hi v S w w' h hs
  rcases knE_some hi with ⟨k, _, _, _, rfl⟩ | ⟨_, _, _, rfl⟩
  · exact k.st h hs
  · trivial
theorem knE_rest (L : List KnE) : ∀ i, L.length ≤ i → knE L i = .val none none fun _ _ _ => True := by
  intro i hi
  unfold knE
  rw [List.getElem?_eq_none hi]
theorem knE_put {L : List KnE} {i b s : Nat} : knE L i ≠ .put b s := by
  unfold knE
  split
  · intro h; cases h
  · intro h; cases h
theorem knE_box {L : List KnE} {i n : Nat} {t : TypeId} : knE L i ≠ .box t n := by
  unfold knE
  split
  · intro h; cases h
  · intro h; cases h

/-- The list's closed facts: at most one item writes an old row; what is eaten is a row or an array of new memory, eaten once. -/
def KnE.food : KnE → Bool | .row .. => true | .arr .. => true | .one .. => true | .gen .. => true | _ => false
def eatB (L : List KnE) : Bool :=
  decide ((L.filter KnE.isOld).length ≤ 1) && (L.all fun k => match k.eats with | none => true | some j => match L[j]? with | some f => f.food | none => false) && onceB (L.map KnE.eats)
theorem olds_one : ∀ (L : List KnE), (L.filter KnE.isOld).length ≤ 1 → ∀ (i j : Nat) (k k' : KnE), L[i]? = some k → L[j]? = some k' → k.isOld = true → k'.isOld = true → i = j
  | [], _, i, _, _, _, h, _, _, _ => by simp at h
  | k0 :: L, h, i, j, k, k', hi, hj, hk, hk' => by
    have none_of : k0.isOld = true → ∀ (m : Nat) x, L[m]? = some x → x.isOld = true → False := fun h0 m x hm hx => by
      rw [List.filter_cons_of_pos h0] at h
      have : x ∈ L.filter KnE.isOld := List.mem_filter.2 ⟨List.mem_of_getElem? hm, hx⟩
      have := List.length_pos_of_mem this
      rw [List.length_cons] at h
      omega
    have tail : (L.filter KnE.isOld).length ≤ 1 := by
      cases h0 : k0.isOld with
      | true => rw [List.filter_cons_of_pos h0, List.length_cons] at h; omega
      | false => rw [List.filter_cons_of_neg (by simp [h0])] at h; exact h
    cases i with
    | zero =>
      cases j with
      | zero => rfl
      | succ j =>
        simp at hi hj
        subst hi
        exact (none_of hk j k' hj hk').elim
    | succ i =>
      cases j with
      | zero =>
        simp at hi hj
        subst hj
        exact (none_of hk' i k hi hk).elim
      | succ j =>
        simp at hi hj
        rw [olds_one L tail i j k k' hi hj hk hk']
theorem old_is {k : KnE} {b : Nat} (h : some b = k.old) : k.isOld = true := by cases k <;> simp [KnE.old] at h <;> rfl
theorem knE_M {L : List KnE} (h : eatB L = true) : ∀ i j e e' φ ψ b, knE L i = .val (some b) e φ → knE L j = .val (some b) e' ψ → i = j := by
  intro i j e e' φ ψ b hi hj
  simp only [eatB, Bool.and_eq_true, decide_eq_true_eq] at h
  rcases knE_some hi with ⟨k, hk, hM, _, _⟩ | ⟨_, hM, _, _⟩
  · rcases knE_some hj with ⟨k', hk', hM', _, _⟩ | ⟨_, hM', _, _⟩
    · exact olds_one L h.1.1 i j k k' hk hk' (old_is hM) (old_is hM')
    · cases hM'
  · cases hM
theorem knE_E {L : List KnE} (h : eatB L = true) : ∀ i j M φ, knE L i = .val M (some j) φ → M = none ∧ ∃ e ψ, knE L j = .val none e ψ := by
  intro i j M φ hi
  simp only [eatB, Bool.and_eq_true, decide_eq_true_eq] at h
  rcases knE_some hi with ⟨k, hk, hM, he, _⟩ | ⟨_, _, he, _⟩
  · have h1 := (List.all_eq_true.1 h.1.2) k (List.mem_of_getElem? hk)
    rw [← he] at h1
    simp only at h1
    split at h1
    · rename_i f hf
      refine ⟨?_, f.eats, f.phi, ?_⟩
      · rw [hM]; cases k <;> simp [KnE.eats] at he <;> rfl
      · unfold knE; rw [hf]
        have : f.old = none := by cases f <;> simp [KnE.food] at h1 <;> rfl
        show f.item = _
        unfold KnE.item
        rw [this]
    · cases h1
  · cases he
theorem knE_E1 {L : List KnE} (h : eatB L = true) : ∀ i k j M M' φ ψ, knE L i = .val M (some j) φ → knE L k = .val M' (some j) ψ → i = k := by
  intro i k j M M' φ ψ hi hk
  simp only [eatB, Bool.and_eq_true, decide_eq_true_eq] at h
  have key : ∀ i M φ, knE L i = .val M (some j) φ → (L.map KnE.eats)[i]? = some (some j) := by
    intro i M φ hi
    rcases knE_some hi with ⟨k, hk, _, he, _⟩ | ⟨_, _, he, _⟩
    · rw [List.getElem?_map, hk, he]; rfl
    · cases he
  exact once_of _ h.2 i k j (key i M φ hi) (key k M' ψ hk)

/-- A region that draws its order, by a list of what its first operations are good for; the others wait for all of these. -/
theorem planK {P : Program} {id : Nat} {ops : Array Oper} {Q : Exit → Act → World → Prop} {a : Act} {w : World} (nn m : Nat) (news : List (Nat × Tmp)) (olds : List (Tmp × Value)) (L : List KnE) (hm : P.follows .mixedOrders = true)
    (hplan : planGB ops nn m news (olds.map (·.1)) = true) (hsize : a.tmps.size = m) (holds : ∀ p ∈ olds, a.eval (.tmp p.1) = p.2) (hng : (ops.toList.all fun o => o.guard.isNone) = true) (heat : eatB L = true) (hLn : L.length ≤ nn)
    (hMlt : ∀ k ∈ L, ∀ b, k.old = some b → b < w.heap.size)
    (hlast : ((List.range nn).all fun i => decide (i < L.length) || (List.range nn).all fun j => !decide (j < L.length) || reachB ops nn i j) = true)
    (steps : ∀ i o, ops[i]? = some o → i < L.length → StepOKE P news olds (knE L) w i o)
    (fin : ∀ u S w', PlanE (knE L) w (fun k => decide (k < L.length) || decide (nn ≤ k)) u S w' → Reads news olds u (frameOf ops a u) → ∀ fuel listed, listed.size = nn → (∀ k, k < nn → listed.getD k true = decide (k < L.length)) → unlisted listed.toList ≤ fuel → wpAny P .any ops Q fuel listed (frameOf ops a u) w') : (Code.region id ops true).wp P Q a w :=
  planE_core nn m news olds (knE L) (fun k => decide (k < L.length)) hm hplan hsize holds (knE_st L) (knE_M heat)
    (fun i e φ b hi => by
      rcases knE_some hi with ⟨k, hk, hM, _, _⟩ | ⟨_, hM, _, _⟩
      · exact hMlt k (List.mem_of_getElem? hk) b hM.symm
      · cases hM)
    (knE_E heat) (knE_E1 heat) hlast
    (fun i o g want ho _ hg => by
      have := (List.all_eq_true.1 hng) o (by simpa using Array.mem_of_getElem? ho)
      rw [hg] at this; cases this)
    (fun i j b s s' hi _ => absurd hi knE_put)
    (fun i hi => by
      rcases hi with h | h
      · exact knE_rest L i (by omega)
      · exact knE_rest L i (by simpa using h))
    (fun i o ho hT => steps i o ho (by simpa using hT)) fin
end Go.Proofs.YtbdciilkapgfjaaGreatDoor

namespace Go.Proofs.YtbdciilkapgfjaaGreatDoor
open Go.RowKit

/-- What is appended: m elements at an address, or none. -/
def Src (w : World) (size : Nat) (v2 : Value) (m : Nat) (ys : List Value) : Prop :=
  (v2 = .slice none 0 0 ∧ m = 0 ∧ ys = []) ∨ ∃ ad c, v2 = .slice (some ad) m c ∧ ys.length = m * size ∧ (∀ j u, ys[j]? = some u → w.cell? (ad.add j) = some u)

/-- An append to a row that a call owns, of any number of elements. -/
theorem run_append_all {P : Program} (w : World) (t ty : TypeId) (base : Nat) (e : TypeId) (i : TypeInfo) (z : Value) (size bytes : Nat) (ht : P.underlying t = some (.slice e)) (hi : P.info? e = some i) (hz : i.zero = some z)
    (hsize : i.size = size) (hby : i.bytes = bytes) (hzs : z.cells.size = size) (hsz : 0 < size) (v : Value) (n : Nat) (xs : List Value) (hown : w.ownsRow base e size v n xs)
    (v2 : Value) (m : Nat) (ys : List Value) (hsrc : Src w size v2 m ys) (h1 : ∀ u ∈ ys, u.oneCell' = true) (h63 : n + m ≤ maxLen) (hbytes : (n + m) * bytes ≤ 140737488355328) (hbase : base ≤ w.heap.size) :
    ∃ v' w', (Builtin.append_ #[t, t] ty #[v, v2]).run P w = .ok v' w' ∧ w'.ownsRow base e size v' (n + m) (xs ++ ys) ∧ w.grownBy w' v.ownBlock ∧ (v'.ownBlock = v.ownBlock ∨ v'.ownBlock = some w.heap.size) := by
  rcases hsrc with ⟨rfl, rfl, rfl⟩ | ⟨ad, c, rfl, hl, hc⟩
  · exact ⟨v, w, run_append_owned_none (P := P) (w := w) base t ty e i size ht hi v n xs hown, by simpa using hown, grown_of_below0 (Below.refl _ _) _, Or.inl rfl⟩
  · obtain ⟨v', w', hr, h2, h3, _, h5⟩ := run_append_own_at (P := P) w base t ty e i z size bytes ht hi hz hsize hby hzs hsz v n xs hown ad m c ys hl hc h1 h63 hbytes hbase
    exact ⟨v', w', hr, h2, h3, h5⟩

theorem run_append_op {P : Program} {o : Oper} {b : Act} {w w' : World} {v v2 v' : Value} (s x : Operand) (t : TypeId) (ho : o.op = .call { callee := .builtin .append, args := #[s, x], argTypes := #[t, t] }) (hs : b.eval s = v) (hx : b.eval x = v2)
    (hr : (Builtin.append_ #[t, t] o.type #[v, v2]).run P w = .ok v' w') : (execOp b.eval o).run P w = .ok (.value v') w' := by
  unfold execOp
  simp only [ho, resolve, invoke, builtin, Sem.run_bind, Sem.run_pure, Result.andThen_ok, List.map_toArray, List.map_cons, List.map_nil, hs, hx, hr]

section
variable {news : List (Nat × Tmp)} {olds : List (Tmp × Value)} {L : List KnE} {w0 : World} {i : Nat} {o : Oper}

theorem knE_at {k : KnE} (h : L[i]? = some k) : knE L i = k.item := by unfold knE; rw [h]
/-- Old blocks that no row is written in are as they were. -/
theorem planE_keep {d : Nat → Bool} {u : Nat → Value} {S : Nat → Nat → Prop} {w : World} (hp : PlanE (knE L) w0 d u S w) (b : Nat) (hb : b < w0.heap.size) (hno : ∀ k ∈ L, k.old ≠ some b) : w.heap[b]? = w0.heap[b]? :=
  hp.block b hb fun j e φ hj => by
    rcases knE_some hj with ⟨k, hk, hM, _, _⟩ | ⟨_, hM, _, _⟩
    · exact absurd hM.symm (hno k (List.mem_of_getElem? hk))
    · cases hM
theorem planE_v {d : Nat → Bool} {u : Nat → Value} {S : Nat → Nat → Prop} {w : World} (hp : PlanE (knE L) w0 d u S w) (heat : eatB L = true) {j : Nat} {x : Value} (hj : L[j]? = some (.v x)) (hd : d j = true) : u j = x := by
  have hlive : Live (knE L) d j := fun k M φ hk => by
    obtain ⟨_, e, ψ, h2⟩ := knE_E heat k j M φ hk
    simp only [eatB, Bool.and_eq_true, decide_eq_true_eq] at heat
    rcases knE_some hk with ⟨q, hq, _, he, _⟩ | ⟨_, _, he, _⟩
    · have h1 := (List.all_eq_true.1 heat.1.2) q (List.mem_of_getElem? hq)
      rw [← he] at h1
      simp only [hj] at h1
      cases h1
    · cases he
  exact (hp.val j none none (isV x) (by rw [knE_at hj]; rfl) hd hlive).1

/-- What is known of an operation's operands. -/
def Uses (news : List (Nat × Tmp)) (L : List KnE) (o : Oper) (uses : List (Nat × Tmp × Value)) : Prop := ∀ p ∈ uses, (p.1, p.2.1) ∈ news ∧ L[p.1]? = some (.v p.2.2) ∧ waitsB o p.1 = true
theorem Uses.eval {uses : List (Nat × Tmp × Value)} (hu : Uses news L o uses) (heat : eatB L = true) {d : Nat → Bool} {u : Nat → Value} {S : Nat → Nat → Prop} {w : World} {b : Act} (hp : PlanE (knE L) w0 d u S w) (hR : Reads news olds u b) (hd : ∀ e ∈ o.after, Region.binds .any e = true → d e.on = true) :
    ∀ p ∈ uses, b.eval (.tmp p.2.1) = p.2.2 := fun p hpu => by
  obtain ⟨h1, h2, h3⟩ := hu p hpu
  obtain ⟨e1, h4, h5, h6⟩ := waits_of h3
  exact (hR.1 _ h1).trans (planE_v hp heat h2 (by rw [← h6]; exact hd e1 h4 h5))

theorem uses1 {j : Nat} {x : Tmp} {X : Value} (hx : (j, x) ∈ news) (hj : L[j]? = some (.v X)) (hw : waitsB o j = true) : Uses news L o [(j, x, X)] := fun p hp => by obtain rfl := List.mem_singleton.1 hp; exact ⟨hx, hj, hw⟩
theorem uses2 {j k : Nat} {x y : Tmp} {X Y : Value} (hx : (j, x) ∈ news) (hj : L[j]? = some (.v X)) (hw : waitsB o j = true) (hy : (k, y) ∈ news) (hk : L[k]? = some (.v Y)) (hwy : waitsB o k = true) : Uses news L o [(j, x, X), (k, y, Y)] := fun p hp => by
  rcases List.mem_cons.1 hp with rfl | hp
  · exact ⟨hx, hj, hw⟩
  · obtain rfl := List.mem_singleton.1 hp; exact ⟨hy, hk, hwy⟩

/-- An operation that runs to a known value. -/
theorem step_kn {v : Value} (uses : List (Nat × Tmp × Value)) (heat : eatB L = true) (hL : L[i]? = some (.v v)) (hu : Uses news L o uses)
    (hrun : ∀ (b : Act) (w : World), (∀ p ∈ uses, b.eval (.tmp p.2.1) = p.2.2) → (∀ p ∈ olds, b.eval (.tmp p.1) = p.2) → (∀ c, c < w0.heap.size → (∀ k ∈ L, k.old ≠ some c) → w.heap[c]? = w0.heap[c]?) → (execOp b.eval o).run Tryz.prog w = .ok (.value v) w) : StepOKE Tryz.prog news olds (knE L) w0 i o := by
  unfold StepOKE
  rw [knE_at hL]
  refine ⟨(fun j hj => by cases hj), ?_⟩
  intro Q d u S w b K hp hdi hR hd he hK
  exact wp_of_run v (hrun b w (hu.eval heat hp hR hd) hR.2 (planE_keep hp)) (hK.out _ (fun _ => False) _ none (grown_of_below0 (Below.refl _ _) _) (fun b h => by cases h) rfl (fun _ h => h.elim))

theorem kn_field0 {N off : Nat} (t : TypeId) (f : Nat) (x : Tmp) (heat : eatB L = true) (hL : L[i]? = some (.v (.pointer (some ⟨N, off, none⟩)))) (ho : o.op = .fieldAddr t (.tmp x) f) (hmem : (x, Value.pointer (some ⟨N, 0, none⟩)) ∈ olds)
    (hrun : ∀ w, (Instr.fieldAt t (.pointer (some ⟨N, 0, none⟩)) f).run Tryz.prog w = .ok (.pointer (some ⟨N, off, none⟩)) w) : StepOKE Tryz.prog news olds (knE L) w0 i o :=
  step_kn [] heat hL (fun p hp => by cases hp) fun b w _ ho' _ => run_fieldAddr N off hrun _ b ho (ho' _ hmem) w
theorem kn_load {a : Addr} {v : Value} (t : TypeId) (j : Nat) (x : Tmp) (heat : eatB L = true) (hL : L[i]? = some (.v v)) (ho : o.op = .load t (.tmp x)) (hx : (j, x) ∈ news) (hj : L[j]? = some (.v (.pointer (some a)))) (hw : waitsB o j = true)
    (hc : w0.cell? a = some v) (hlt : a.block < w0.heap.size) (hno : ∀ k ∈ L, k.old ≠ some a.block) (hload : ∀ w, w.cell? a = some v → (Instr.loadAt t (.pointer (some a))).run Tryz.prog w = .ok v w) : StepOKE Tryz.prog news olds (knE L) w0 i o :=
  step_kn [(j, x, _)] heat hL (uses1 hx hj hw) fun b w e _ hk => by
    have e1 := e _ List.mem_cons_self
    simp only at e1
    unfold execOp
    simp only [ho, e1, Sem.run_bind, hload w ((World.cell?_of_block (hk a.block hlt hno)).trans hc), Sem.run_pure, Result.andThen_ok]
theorem kn_load6 {N : Nat} {c : VC} (x : Tmp) (heat : eatB L = true) (hL : L[i]? = some (.v (VC.val c))) (ho : o.op = .load 26 (.tmp x)) (hmem : (x, Value.pointer (some ⟨N, 0, none⟩)) ∈ olds) (hb : Box w0 N c) (hno : ∀ k ∈ L, k.old ≠ some N) : StepOKE Tryz.prog news olds (knE L) w0 i o :=
  step_kn [] heat hL (fun p hp => by cases hp) fun b w _ ho' hk => by
    have e := ho' _ hmem
    simp only at e
    have hbw : Box w N c := (hk N hb.lt hno).trans hb
    unfold execOp
    simp only [ho, e, Sem.run_bind, load_at6 hbw.at6, Sem.run_pure, Result.andThen_ok]
theorem kn_move {v : Value} (x : Tmp) (heat : eatB L = true) (hL : L[i]? = some (.v v)) (ho : o.op = .move (.tmp x)) (hmem : (x, v) ∈ olds) : StepOKE Tryz.prog news olds (knE L) w0 i o :=
  step_kn [] heat hL (fun p hp => by cases hp) fun b w _ ho' _ => by have e := ho' _ hmem; simp only at e; unfold execOp; simp only [ho, e]; rfl

/-- A slice of one element. -/
theorem kn_one {v : Value} {cs : Array Value} (T t : TypeId) (j : Nat) (x : Tmp) (heat : eatB L = true) (hL : L[i]? = some (.one cs t)) (ho : o.op = .buildSlice T 1 #[(0, .tmp x)]) (hx : (j, x) ∈ news) (hj : L[j]? = some (.v v)) (hw : waitsB o j = true)
    (hrun : ∀ w, (Instr.buildSlice T 1 #[(0, v)]).run Tryz.prog w = .ok (.slice (some ⟨w.heap.size, 0, none⟩) 1 1) (w.alloc (.cells cs t))) : StepOKE Tryz.prog news olds (knE L) w0 i o := by
  unfold StepOKE
  rw [knE_at hL]
  refine ⟨(fun j hj => by cases hj), ?_⟩
  intro Q d u S w b K hp hdi hR hd he hK
  have ex := (uses1 hx hj hw).eval heat hp hR hd _ List.mem_cons_self
  simp only at ex
  refine wp_of_run (w' := w.alloc (.cells cs t)) _ (by unfold execOp; simp only [ho, List.map_toArray, List.map_cons, List.map_nil, ex, Sem.run_bind, hrun w, Sem.run_pure, Result.andThen_ok]) (hK.out _ (fun b => b = w.heap.size) _ none (World.grownBy_alloc _ _ _) (fun b h => by cases h) ⟨w.heap.size, rfl, rfl, heap_alloc_new _ _⟩ (fun b h => ?_))
  subst h
  exact ⟨Or.inl (Nat.le_refl _), by simp⟩

/-- What operation o appends, its operand x. -/
def SrcOK (news : List (Nat × Tmp)) (olds : List (Tmp × Value)) (L : List KnE) (w0 : World) (o : Oper) (x : Operand) (size m : Nat) (ys : List Value) : Prop :=
  ∀ d u S w b, PlanE (knE L) w0 d u S w → Reads news olds u b → (∀ e ∈ o.after, Region.binds .any e = true → d e.on = true) → Src w size (b.eval x) m ys
theorem src_old {size m : Nat} {v2 : Value} {ys : List Value} (j : Nat) (x : Tmp) (heat : eatB L = true) (hx : (j, x) ∈ news) (hj : L[j]? = some (.v v2)) (hw : waitsB o j = true) (h : Src w0 size v2 m ys)
    (hkeep : ∀ w, (∀ c, c < w0.heap.size → (∀ k ∈ L, k.old ≠ some c) → w.heap[c]? = w0.heap[c]?) → Src w0 size v2 m ys → Src w size v2 m ys) : SrcOK news olds L w0 o (.tmp x) size m ys := by
  intro d u S w b hp hR hd
  have ex := (uses1 hx hj hw).eval heat hp hR hd _ List.mem_cons_self
  simp only at ex
  rw [ex]
  exact hkeep w (planE_keep hp) h
theorem src_one {cs : Array Value} {t : TypeId} (j : Nat) (x : Tmp) (heat : eatB L = true) (hx : (j, x) ∈ news) (hj : L[j]? = some (.one cs t)) (hw : waitsB o j = true) (hne : ∀ k ∈ L, k.eats ≠ some j) : SrcOK news olds L w0 o (.tmp x) cs.size 1 cs.toList := by
  intro d u S w b hp hR hd
  obtain ⟨e1, h4, h5, h6⟩ := waits_of hw
  have hlive : Live (knE L) d j := fun k M φ hk => by
    rcases knE_some hk with ⟨q, hq, _, he, _⟩ | ⟨_, _, he, _⟩
    · exact absurd he.symm (hne q (List.mem_of_getElem? hq))
    · cases he
  obtain ⟨N, hN, _, hNb⟩ := (hp.val j none none (OneSlice cs t) (by rw [knE_at hj]; rfl) (by rw [← h6]; exact hd e1 h4 h5) hlive).1
  have ex := (hR.1 _ hx).trans hN
  have heat := heat
  exact Or.inr ⟨⟨N, 0, none⟩, 1, ex, by simp, World.news_of_block hNb⟩

/-- An append to nil. -/
theorem kn_app0 {base size bytes m : Nat} {e : TypeId} {inf : TypeInfo} {z : Value} {ys : List Value} (T : TypeId) (js : Nat) (s : Tmp) (x : Operand) (heat : eatB L = true) (hL : L[i]? = some (.row none base e size m ys))
    (ho : o.op = .call { callee := .builtin .append, args := #[.tmp s, x], argTypes := #[T, T] }) (hs : (js, s) ∈ news) (hjs : L[js]? = some (.v (.slice none 0 0))) (hws : waitsB o js = true) (hsrc : SrcOK news olds L w0 o x size m ys)
    (ht : Tryz.prog.underlying T = some (.slice e)) (hinf : Tryz.prog.info? e = some inf) (hz : inf.zero = some z) (hsize : inf.size = size) (hby : inf.bytes = bytes) (hzs : z.cells.size = size) (hsz : 0 < size)
    (hc1 : ∀ u ∈ ys, u.oneCell' = true) (h63 : m ≤ maxLen) (hbytes : m * bytes ≤ 140737488355328) (hbase : base ≤ w0.heap.size) : StepOKE Tryz.prog news olds (knE L) w0 i o := by
  unfold StepOKE
  rw [knE_at hL]
  refine ⟨(fun j hj => by cases hj), ?_⟩
  intro Q d u S w b K hp hdi hR hd he hK
  have es := (uses1 hs hjs hws).eval heat hp hR hd _ List.mem_cons_self
  simp only at es
  obtain ⟨v', w', hr, h2, h3, h4⟩ := run_append_all (P := Tryz.prog) w T o.type base e inf z size bytes ht hinf hz hsize hby hzs hsz (.slice none 0 0) 0 [] (World.ownsRow_nil _ _ _ _) (b.eval x) m ys (hsrc d u S w b hp hR hd) hc1 (by omega) (by simpa using hbytes) (Nat.le_trans hbase hp.size)
  rw [Nat.zero_add, List.nil_append] at h2
  refine wp_of_run v' (run_append_op _ _ T ho es rfl hr) (hK.out v' (fun g => v'.ownBlock = some g) w' none h3 (fun b h => by cases h) ⟨h2, fun g hg => hg⟩ (fun g hg => ?_))
  refine ⟨Or.inl ?_, (h2.lt g hg).2⟩
  rcases h4 with h | h
  · rw [h] at hg; cases hg
  · rw [h] at hg; cases hg; exact Nat.le_refl _

/-- An append to a row that lay there. -/
theorem kn_appO {kv : Value} {base size bytes n m : Nat} {e : TypeId} {inf : TypeInfo} {z : Value} {xs ys : List Value} (T : TypeId) (js : Nat) (s : Tmp) (x : Operand) (heat : eatB L = true) (hL : L[i]? = some (.rowO kv.ownBlock base e size (n + m) (xs ++ ys)))
    (ho : o.op = .call { callee := .builtin .append, args := #[.tmp s, x], argTypes := #[T, T] }) (hs : (js, s) ∈ news) (hjs : L[js]? = some (.v kv)) (hws : waitsB o js = true) (hsrc : SrcOK news olds L w0 o x size m ys)
    (ht : Tryz.prog.underlying T = some (.slice e)) (hinf : Tryz.prog.info? e = some inf) (hz : inf.zero = some z) (hsize : inf.size = size) (hby : inf.bytes = bytes) (hzs : z.cells.size = size) (hsz : 0 < size)
    (hown : w0.ownsRow base e size kv n xs) (hc1 : ∀ u ∈ ys, u.oneCell' = true) (h63 : n + m ≤ maxLen) (hbytes : (n + m) * bytes ≤ 140737488355328) (hbase : base ≤ w0.heap.size) : StepOKE Tryz.prog news olds (knE L) w0 i o := by
  unfold StepOKE
  rw [knE_at hL]
  refine ⟨(fun j hj => by cases hj), ?_⟩
  intro Q d u S w b K hp hdi hR hd he hK
  have es := (uses1 hs hjs hws).eval heat hp hR hd _ List.mem_cons_self
  simp only at es
  have hown' : w.ownsRow base e size kv n xs := row_same hown fun g hg => hp.block g (hown.lt g hg).2 fun j e' φ hj => by
    have hi : knE L i = .val kv.ownBlock none (RowIs base e size (n + m) (xs ++ ys)) := by rw [knE_at hL]; rfl
    rw [hg] at hi
    rw [knE_M heat j i e' none φ _ g hj hi]
    exact hdi
  obtain ⟨v', w', hr, h2, h3, h4⟩ := run_append_all (P := Tryz.prog) w T o.type base e inf z size bytes ht hinf hz hsize hby hzs hsz kv n xs hown' (b.eval x) m ys (hsrc d u S w b hp hR hd) hc1 h63 hbytes (Nat.le_trans hbase hp.size)
  refine wp_of_run v' (run_append_op _ _ T ho es rfl hr) (hK.out v' (fun g => v'.ownBlock = some g) w' kv.ownBlock h3 (fun b h => Or.inl h.symm) ⟨h2, fun g hg => hg⟩ (fun g hg => ?_))
  refine ⟨?_, (h2.lt g hg).2⟩
  rcases h4 with h | h
  · exact Or.inr (h.symm.trans hg)
  · rw [h] at hg; cases hg; exact Or.inl (Nat.le_refl _)

/-- An append to a row that another operation has made: its blocks are taken over. -/
theorem kn_app1 {base size bytes n m : Nat} {e' : Option Nat} {e : TypeId} {inf : TypeInfo} {z : Value} {xs ys : List Value} (T : TypeId) (js : Nat) (s : Tmp) (x : Operand) (hL : L[i]? = some (.row (some js) base e size (n + m) (xs ++ ys)))
    (ho : o.op = .call { callee := .builtin .append, args := #[.tmp s, x], argTypes := #[T, T] }) (hs : (js, s) ∈ news) (hjs : L[js]? = some (.row e' base e size n xs)) (hws : waitsB o js = true) (hsrc : SrcOK news olds L w0 o x size m ys)
    (ht : Tryz.prog.underlying T = some (.slice e)) (hinf : Tryz.prog.info? e = some inf) (hz : inf.zero = some z) (hsize : inf.size = size) (hby : inf.bytes = bytes) (hzs : z.cells.size = size) (hsz : 0 < size)
    (hc1 : ∀ u ∈ ys, u.oneCell' = true) (h63 : n + m ≤ maxLen) (hbytes : (n + m) * bytes ≤ 140737488355328) (hbase : base ≤ w0.heap.size) : StepOKE Tryz.prog news olds (knE L) w0 i o := by
  unfold StepOKE
  rw [knE_at hL]
  refine ⟨fun j hj d hd => ?_, ?_⟩
  · cases hj
    obtain ⟨e1, h4, h5, h6⟩ := waits_of hws
    rw [← h6]; exact hd e1 h4 h5
  intro Q d u S w b K hp hdi hR hd he hK
  obtain ⟨hdj, hlj⟩ := he js rfl
  obtain ⟨⟨hown, hSg⟩, _⟩ := hp.val js none e' (RowIs base e size n xs) (by rw [knE_at hjs]; rfl) hdj hlj
  have es := hR.1 _ hs
  obtain ⟨v', w', hr, h2, h3, h4⟩ := run_append_all (P := Tryz.prog) w T o.type base e inf z size bytes ht hinf hz hsize hby hzs hsz (u js) n xs hown (b.eval x) m ys (hsrc d u S w b hp hR hd) hc1 h63 hbytes (Nat.le_trans hbase hp.size)
  refine wp_of_run v' (run_append_op _ _ T ho es rfl hr) (hK.out v' (fun g => v'.ownBlock = some g) w' (u js).ownBlock h3 (fun b h => Or.inr ⟨js, rfl, hSg b h⟩) ⟨h2, fun g hg => hg⟩ (fun g hg => ?_))
  refine ⟨?_, (h2.lt g hg).2⟩
  rcases h4 with h | h
  · exact Or.inr (h.symm.trans hg)
  · rw [h] at hg; cases hg; exact Or.inl (Nat.le_refl _)

/-- A slice of what lay there, from its beginning on, or to its end. -/
theorem Src.keep {size m : Nat} {v2 : Value} {ys : List Value} {w w' : World} {B : Nat} (h : Src w size v2 m ys) (hb : ∀ ad n c, v2 = .slice (some ad) n c → ad.block = B) (hk : w'.heap[B]? = w.heap[B]?) : Src w' size v2 m ys := by
  rcases h with h | ⟨ad, c, rfl, h1, h2⟩
  · exact Or.inl h
  · have e := hb ad m c rfl
    refine Or.inr ⟨ad, c, rfl, h1, fun j u hj => ?_⟩
    rw [← h2 j u hj]
    refine World.cell?_of_block ?_
    have : (ad.add j).block = B := by unfold Addr.add; split <;> exact e
    rw [this]; exact hk
end

/-- The last operation of a region. -/
theorem wpAny_last {P : Program} {ops : Array Oper} {Q : Exit → Act → World → Prop} {listed : Array Bool} {a a1 : Act} {w w1 : World} (i : Nat) (oi : Oper) (hi : ops[i]? = some oi) (r1 : Region.ready .any ops listed = [i]) (r2 : Region.ready .any ops (listed.setIfInBounds i true) = [])
    (gi : oi.guard = none) (h1 : ∀ K : Act → World → Prop, K a1 w1 → Oper.wp P oi a w K Q) (hq : Q .normal a1 w1) : ∀ fuel, 1 ≤ fuel → wpAny P .any ops Q fuel listed a w := by
  intro fuel hf
  obtain ⟨f, rfl⟩ : ∃ f, fuel = f + 1 := ⟨fuel - 1, by omega⟩
  refine wpAny_all r1 (by simp) fun x hx => ?_
  obtain rfl : x = i := by simpa using hx
  unfold wpOp
  simp only [hi, Region.wanted, gi, if_true]
  exact .inl (h1 _ (wpAny_done r2 hq f))
/-- The last two, one behind the other. -/
theorem wpAny_two {P : Program} {ops : Array Oper} {Q : Exit → Act → World → Prop} {listed : Array Bool} {a a1 a2 : Act} {w w1 w2 : World} (i j : Nat) (oi oj : Oper) (hi : ops[i]? = some oi) (hj : ops[j]? = some oj) (r1 : Region.ready .any ops listed = [i]) (r2 : Region.ready .any ops (listed.setIfInBounds i true) = [j])
    (r3 : Region.ready .any ops ((listed.setIfInBounds i true).setIfInBounds j true) = []) (gi : oi.guard = none) (gj : oj.guard = none) (h1 : ∀ K : Act → World → Prop, K a1 w1 → Oper.wp P oi a w K Q) (h2 : ∀ K : Act → World → Prop, K a2 w2 → Oper.wp P oj a1 w1 K Q) (hq : Q .normal a2 w2) : ∀ fuel, 2 ≤ fuel → wpAny P .any ops Q fuel listed a w := by
  intro fuel hf
  obtain ⟨f, rfl⟩ : ∃ f, fuel = f + 2 := ⟨fuel - 2, by omega⟩
  refine wpAny_all r1 (by simp) fun x hx => ?_
  obtain rfl : x = i := by simpa using hx
  unfold wpOp
  simp only [hi, Region.wanted, gi, if_true]
  exact .inl (h1 _ (wpAny_last j oj hj r2 r3 gj h2 hq (f + 1) (by omega)))
end Go.Proofs.YtbdciilkapgfjaaGreatDoor
