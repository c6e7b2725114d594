/- A part of the proof. -/
import Derived.Test.YtbdciilkapgfjaaGreatDoorM15
import Derived.IntWalk
namespace Go.Proofs.YtbdciilkapgfjaaGreatDoor
open Go.RowKit
section
variable {news : List (Nat × Tmp)} {olds : List (Tmp × Value)} {L : List KnE} {w0 : World} {i : Nat} {o : Oper}

theorem planE_low {d : Nat → Bool} {u : Nat → Value} {S : Nat → Nat → Prop} {w : World} (hp : PlanE (knE L) w0 d u S w) (hno : (L.all fun k => k.old.isNone) = true) : Below w0.heap.size w0 w :=
  hp.low fun j M e φ hj => by
    rcases knE_some hj with ⟨k, hk, hM, _, _⟩ | ⟨_, hM, _, _⟩
    · have := (List.all_eq_true.1 hno) k (List.mem_of_getElem? hk)
      rw [hM]
      exact Option.isNone_iff_eq_none.1 this
    · exact hM
theorem live_of {d : Nat → Bool} {j : Nat} (hne : (L.all fun k => k.eats != some j) = true) : Live (knE L) d j := fun k M φ hk => by
  rcases knE_some hk with ⟨q, hq, _, he, _⟩ | ⟨_, _, he, _⟩
  · have := (List.all_eq_true.1 hne) q (List.mem_of_getElem? hq)
    rw [← he] at this
    simp at this
  · cases he

theorem kn_run0 {v : Value} (heat : eatB L = true) (hL : L[i]? = some (.v v)) (hrun : ∀ (b : Act) (w : World), (execOp b.eval o).run Tryz.prog w = .ok (.value v) w) : StepOKE Tryz.prog news olds (knE L) w0 i o :=
  step_kn [] heat hL (fun p hp => by cases hp) fun b w _ _ _ => hrun b w
theorem kn_run1 {v X : Value} (j : Nat) (x : Tmp) (heat : eatB L = true) (hL : L[i]? = some (.v v)) (hx : (j, x) ∈ news) (hj : L[j]? = some (.v X)) (hw : waitsB o j = true)
    (hrun : ∀ (b : Act) (w : World), b.eval (.tmp x) = X → (execOp b.eval o).run Tryz.prog w = .ok (.value v) w) : StepOKE Tryz.prog news olds (knE L) w0 i o :=
  step_kn [(j, x, X)] heat hL (uses1 hx hj hw) fun b w e _ _ => hrun b w (e _ List.mem_cons_self)
theorem kn_run2 {v X Y : Value} (j k : Nat) (x y : Tmp) (heat : eatB L = true) (hL : L[i]? = some (.v v)) (hx : (j, x) ∈ news) (hj : L[j]? = some (.v X)) (hw : waitsB o j = true) (hy : (k, y) ∈ news) (hk : L[k]? = some (.v Y)) (hwy : waitsB o k = true)
    (hrun : ∀ (b : Act) (w : World), b.eval (.tmp x) = X → b.eval (.tmp y) = Y → (execOp b.eval o).run Tryz.prog w = .ok (.value v) w) : StepOKE Tryz.prog news olds (knE L) w0 i o :=
  step_kn [(j, x, X), (k, y, Y)] heat hL (uses2 hx hj hw hy hk hwy) fun b w e _ _ => hrun b w (e _ List.mem_cons_self) (e _ (List.mem_cons_of_mem _ List.mem_cons_self))

theorem kn_field1 {N off off' : Nat} (t : TypeId) (f : Nat) (j : Nat) (x : Tmp) (heat : eatB L = true) (hL : L[i]? = some (.v (.pointer (some ⟨N, off', none⟩)))) (ho : o.op = .fieldAddr t (.tmp x) f) (hx : (j, x) ∈ news) (hj : L[j]? = some (.v (.pointer (some ⟨N, off, none⟩)))) (hw : waitsB o j = true)
    (hrun : ∀ w, (Instr.fieldAt t (.pointer (some ⟨N, off, none⟩)) f).run Tryz.prog w = .ok (.pointer (some ⟨N, off', none⟩)) w) : StepOKE Tryz.prog news olds (knE L) w0 i o :=
  kn_run1 j x heat hL hx hj hw fun b w e => by unfold execOp; simp only [ho, e, Sem.run_bind, hrun, Sem.run_pure, Result.andThen_ok]
theorem kn_move1 {v : Value} (j : Nat) (x : Tmp) (heat : eatB L = true) (hL : L[i]? = some (.v v)) (ho : o.op = .move (.tmp x)) (hx : (j, x) ∈ news) (hj : L[j]? = some (.v v)) (hw : waitsB o j = true) : StepOKE Tryz.prog news olds (knE L) w0 i o :=
  kn_run1 j x heat hL hx hj hw fun b w e => by unfold execOp; simp only [ho, e]; rfl
theorem kn_assign1 {v : Value} (j : Nat) (x : Tmp) (heat : eatB L = true) (hL : L[i]? = some (.v v)) (ho : o.op = .assign (.tmp x)) (hx : (j, x) ∈ news) (hj : L[j]? = some (.v v)) (hw : waitsB o j = true) : StepOKE Tryz.prog news olds (knE L) w0 i o :=
  kn_run1 j x heat hL hx hj hw fun b w e => by unfold execOp; simp only [ho, e]; rfl
theorem kn_not {c : Bool} (t : TypeId) (j : Nat) (x : Tmp) (heat : eatB L = true) (hL : L[i]? = some (.v (.bool (!c)))) (ho : o.op = .unOp .not t (.tmp x)) (hx : (j, x) ∈ news) (hj : L[j]? = some (.v (.bool c))) (hw : waitsB o j = true) : StepOKE Tryz.prog news olds (knE L) w0 i o :=
  kn_run1 j x heat hL hx hj hw fun b w e => by unfold execOp; simp only [ho, e]; rfl
/-- '&&': the test ahead was true. -/
theorem kn_and {c : Bool} (j k : Nat) (x y : Tmp) (heat : eatB L = true) (hL : L[i]? = some (.v (.bool c))) (ho : o.op = .pick (.tmp x) (.tmp y) (.const (.bool false))) (hx : (j, x) ∈ news) (hj : L[j]? = some (.v (.bool true))) (hw : waitsB o j = true) (hy : (k, y) ∈ news) (hk : L[k]? = some (.v (.bool c))) (hwy : waitsB o k = true) : StepOKE Tryz.prog news olds (knE L) w0 i o :=
  kn_run2 j k x y heat hL hx hj hw hy hk hwy fun b w e e2 => by unfold execOp; simp only [ho, e, e2]; rfl
theorem kn_eqlN {a c : Int} {e : Bool} (j k : Nat) (x y : Tmp) (he : decide (a = c) = e) (heat : eatB L = true) (hL : L[i]? = some (.v (.bool e))) (ho : o.op = .binOp .eql 3 (.tmp x) (.tmp y) 3) (hx : (j, x) ∈ news) (hj : L[j]? = some (.v (.int .i64 a))) (hw : waitsB o j = true) (hy : (k, y) ∈ news) (hk : L[k]? = some (.v (.int .i64 c))) (hwy : waitsB o k = true) : StepOKE Tryz.prog news olds (knE L) w0 i o :=
  kn_run2 j k x y heat hL hx hj hw hy hk hwy fun b w e1 e2 => by
    unfold execOp
    simp only [ho, e1, e2]
    rw [← he]
    by_cases h : a = c
    · subst h; go_simp
    · go_simp
theorem kn_add1 {n : Nat} (hlt : n ≤ 1000000) (j : Nat) (x : Tmp) (heat : eatB L = true) (hL : L[i]? = some (.v (.int .i64 ((n + 1 : Nat) : Int)))) (ho : o.op = .binOp .add 3 (.tmp x) (.const (.int .i64 1)) 3) (hx : (j, x) ∈ news) (hj : L[j]? = some (.v (.int .i64 (n : Int)))) (hw : waitsB o j = true) : StepOKE Tryz.prog news olds (knE L) w0 i o :=
  kn_run1 j x heat hL hx hj hw fun b w e1 => by
    have hc : ((n + 1 : Nat) : Int) = (n : Int) + 1 := by omega
    unfold execOp
    rw [hc]
    simp only [ho, e1]
    go_simp
    refine IntWalk.i64_in _ ?_
    omega
end

/-- The only operation that is ready. -/
theorem wpAny_head {P : Program} {ops : Array Oper} {Q : Exit → Act → World → Prop} {listed : Array Bool} {a : Act} {w : World} (n i : Nat) (oi : Oper) (hi : ops[i]? = some oi) (r1 : Region.ready .any ops listed = [i]) (gi : oi.guard = none)
    (h1 : Oper.wp P oi a w (fun a1 w1 => ∀ fuel, n ≤ fuel → wpAny P .any ops Q fuel (listed.setIfInBounds i true) a1 w1) Q) : ∀ fuel, n + 1 ≤ fuel → wpAny P .any ops Q fuel listed a w := by
  intro fuel hf
  obtain ⟨f, rfl⟩ : ∃ f, fuel = f + 1 := ⟨fuel - 1, by omega⟩
  refine wpAny_all r1 (by simp) fun x hx => ?_
  obtain rfl : x = i := by simpa using hx
  unfold wpOp
  simp only [hi, Region.wanted, gi, if_true]
  refine .inl ?_
  exact Oper.wp_mono (fun a1 w1 h => h f (by omega)) h1

/-- A region that draws its order, its operations guarded by tests that are known, by a list of what its first operations are good for; the others wait for all of these. -/
theorem planKG {P : Program} {id : Nat} {ops : Array Oper} {Q : Exit → Act → World → Prop} {a : Act} {w : World} (nn m : Nat) (news : List (Nat × Tmp)) (olds : List (Tmp × Value)) (L : List KnE) (gl : List (Nat × Bool)) (hm : P.follows .mixedOrders = true)
    (hplan : planGB ops nn m news (olds.map (·.1)) = true) (hsize : a.tmps.size = m) (holds : ∀ p ∈ olds, a.eval (.tmp p.1) = p.2) (hgl : (ops.toList.all fun o => match o.guard with | none => true | some p => gl.contains p) = true)
    (hgv : ∀ p ∈ gl, L[p.1]? = some (.v (.bool p.2)) ∧ ∃ t, (p.1, t) ∈ news) (heat : eatB L = true) (hLn : L.length ≤ nn)
    (hMlt : ∀ k ∈ L, ∀ b, k.old = some b → b < w.heap.size)
    (hlast : ((List.range nn).all fun i => decide (i < L.length) || (List.range nn).all fun j => !decide (j < L.length) || reachB ops nn i j) = true)
    (steps : ∀ i o, ops[i]? = some o → i < L.length → StepOKE P news olds (knE L) w i o)
    (fin : ∀ u S w', PlanE (knE L) w (fun k => decide (k < L.length) || decide (nn ≤ k)) u S w' → Reads news olds u (frameOf ops a u) → ∀ fuel listed, listed.size = nn → (∀ k, k < nn → listed.getD k true = decide (k < L.length)) → unlisted listed.toList ≤ fuel → wpAny P .any ops Q fuel listed (frameOf ops a u) w') : (Code.region id ops true).wp P Q a w :=
  planE_core nn m news olds (knE L) (fun k => decide (k < L.length)) hm hplan hsize holds (knE_st L) (knE_M heat)
    (fun i e φ b hi => by
      rcases knE_some hi with ⟨k, hk, hM, _, _⟩ | ⟨_, hM, _, _⟩
      · exact hMlt k (List.mem_of_getElem? hk) b hM.symm
      · cases hM)
    (knE_E heat) (knE_E1 heat) hlast
    (fun i o g want ho _ hg => by
      have h1 := (List.all_eq_true.1 hgl) o (by simpa using Array.mem_of_getElem? ho)
      rw [hg] at h1
      simp only [List.contains_iff_mem] at h1
      obtain ⟨h2, h3⟩ := hgv _ h1
      refine ⟨by rw [knE_at h2]; rfl, fun k M φ hk => ?_, h3⟩
      obtain ⟨_, e, ψ, h4⟩ := knE_E heat k g M φ hk
      simp only [eatB, Bool.and_eq_true, decide_eq_true_eq] at heat
      rcases knE_some hk with ⟨q, hq, _, he, _⟩ | ⟨_, _, he, _⟩
      · have h5 := (List.all_eq_true.1 heat.1.2) q (List.mem_of_getElem? hq)
        rw [← he] at h5
        simp only [h2] at h5
        cases h5
      · cases he)
    (fun i j b s s' hi _ => absurd hi knE_put)
    (fun i hi => by
      rcases hi with h | h
      · exact knE_rest L i (by omega)
      · exact knE_rest L i (by simpa using h))
    (fun i o ho hT => steps i o ho (by simpa using hT)) fin

section
variable {news : List (Nat × Tmp)} {olds : List (Tmp × Value)} {L : List KnE} {w0 : World} {i : Nat} {o : Oper}
/-- A call that leaves the world as it is. -/
theorem kn_callQ {v : Value} (f : FuncId) (xs : Array Operand) (ts : Array TypeId) (vs : Array Value) (uses : List (Nat × Tmp × Value)) (hf : Enters Tryz.prog f) (heat : eatB L = true) (hL : L[i]? = some (.v v))
    (ho : o.op = .call { callee := .value (.func f), args := xs, argTypes := ts }) (hu : Uses news L o uses) (hvs : ∀ b : Act, (∀ p ∈ uses, b.eval (.tmp p.2.1) = p.2.2) → xs.map b.eval = vs)
    (hc : ∀ w, Calls Tryz.prog f vs w fun e w' => e = .returned v ∧ w = w') : StepOKE Tryz.prog news olds (knE L) w0 i o := by
  unfold StepOKE
  rw [knE_at hL]
  refine ⟨(fun j hj => by cases hj), ?_⟩
  intro Q d u S w b K hp hdi hR hd he hK
  refine wp_call_fn f _ ts vs hf ho (hvs b (hu.eval heat hp hR hd)) ((hc w).mono ?_)
  rintro e w' ⟨rfl, rfl⟩
  exact ⟨_, rfl, hK.out _ (fun _ => False) _ none (grown_of_below0 (Below.refl _ _) _) (fun b h => by cases h) rfl (fun _ h => h.elim)⟩
/-- An operation over what a writing call has given, and over a known value. -/
theorem kn_run2O {v X Y : Value} {N k j : Nat} {φ : Value → (Nat → Prop) → World → Prop} {st : ∀ v S w w', φ v S w → Same S w w' → φ v S w'} (x y : Tmp) (heat : eatB L = true) (hL : L[i]? = some (.v v)) (hk : L[k]? = some (.genO N φ st)) (hne : (L.all fun q => q.eats != some k) = true) (hφ : ∀ u S w, φ u S w → u = X) (hx : (k, x) ∈ news) (hwx : waitsB o k = true)
    (hy : (j, y) ∈ news) (hj : L[j]? = some (.v Y)) (hw : waitsB o j = true) (hrun : ∀ (b : Act) (w : World), b.eval (.tmp x) = X → b.eval (.tmp y) = Y → (execOp b.eval o).run Tryz.prog w = .ok (.value v) w) : StepOKE Tryz.prog news olds (knE L) w0 i o := by
  unfold StepOKE
  rw [knE_at hL]
  refine ⟨(fun j hj => by cases hj), ?_⟩
  intro Q d u S w b K hp hdi hR hd he hK
  have e1 := (uses1 hy hj hw).eval heat hp hR hd _ List.mem_cons_self
  simp only at e1
  obtain ⟨e2, h4, h5, h6⟩ := waits_of hwx
  have hu := hφ _ _ _ (hp.val k (some N) none φ (by rw [knE_at hk]; rfl) (by rw [← h6]; exact hd e2 h4 h5) (live_of hne)).1
  have ex := hR.1 _ hx
  simp only at ex
  rw [hu] at ex
  exact wp_of_run v (hrun b w ex e1) (hK.out _ (fun _ => False) _ none (grown_of_below0 (Below.refl _ _) _) (fun b h => by cases h) rfl (fun _ h => h.elim))
end

section
variable {news : List (Nat × Tmp)} {olds : List (Tmp × Value)} {L : List KnE} {w0 : World} {i : Nat} {o : Oper}

/-- A cell that lay there, in the block that another operation writes elsewhere. -/
theorem kn_loadO {N k : Nat} {a : Addr} {v : Value} {φ : Value → (Nat → Prop) → World → Prop} {st : ∀ v S w w', φ v S w → Same S w w' → φ v S w'} (t : TypeId) (j : Nat) (x : Tmp) (heat : eatB L = true) (hL : L[i]? = some (.v v)) (ho : o.op = .load t (.tmp x)) (hx : (j, x) ∈ news) (hj : L[j]? = some (.v (.pointer (some a)))) (hw : waitsB o j = true)
    (hk : L[k]? = some (.genO N φ st)) (hne : (L.all fun q => q.eats != some k) = true) (ha : a.block = N) (hlt : N < w0.heap.size) (hc : w0.cell? a = some v) (hφ : ∀ u S w, φ u S w → w.cell? a = some v) (hload : ∀ w, w.cell? a = some v → (Instr.loadAt t (.pointer (some a))).run Tryz.prog w = .ok v w) : StepOKE Tryz.prog news olds (knE L) w0 i o := by
  unfold StepOKE
  rw [knE_at hL]
  refine ⟨(fun j hj => by cases hj), ?_⟩
  intro Q d u S w b K hp hdi hR hd he hK
  have e1 := (uses1 hx hj hw).eval heat hp hR hd _ List.mem_cons_self
  simp only at e1
  have hcell : w.cell? a = some v := by
    have hitk : knE L k = .val (some N) none φ := by rw [knE_at hk]; rfl
    cases hdk : d k with
    | true =>
      have hlive : Live (knE L) d k := fun k' M φ' hk' => by
        rcases knE_some hk' with ⟨q, hq, _, he, _⟩ | ⟨_, _, he, _⟩
        · have := (List.all_eq_true.1 hne) q (List.mem_of_getElem? hq)
          rw [← he] at this
          simp at this
        · cases he
      exact hφ _ _ _ (hp.val k (some N) none φ hitk hdk hlive).1
    | false =>
      have hN : w.heap[N]? = w0.heap[N]? := hp.block N hlt fun j e φ' hj => by
        rw [knE_M heat j k e none φ' φ N hj hitk]
        exact hdk
      subst ha
      exact (World.cell?_of_block (a := a) hN).trans hc
  exact wp_of_run v (by unfold execOp; simp only [ho, e1, Sem.run_bind, hload w hcell, Sem.run_pure, Result.andThen_ok]) (hK.out _ (fun _ => False) _ none (grown_of_below0 (Below.refl _ _) _) (fun b h => by cases h) rfl (fun _ h => h.elim))

/-- A call of known arguments that writes an old block. -/
theorem kn_callO {N : Nat} {φ : Value → (Nat → Prop) → World → Prop} {st : ∀ v S w w', φ v S w → Same S w w' → φ v S w'} (f : FuncId) (xs : Array Operand) (ts : Array TypeId) (vs : Array Value) (uses : List (Nat × Tmp × Value)) (hf : Enters Tryz.prog f) (heat : eatB L = true) (hL : L[i]? = some (.genO N φ st)) (hlt : N < w0.heap.size)
    (ho : o.op = .call { callee := .value (.func f), args := xs, argTypes := ts }) (hu : Uses news L o uses) (hvs : ∀ b : Act, (∀ p ∈ uses, b.eval (.tmp p.2.1) = p.2.2) → xs.map b.eval = vs)
    (hc : ∀ w, w.heap[N]? = w0.heap[N]? → N < w.heap.size → Calls Tryz.prog f vs w fun e w' => ∃ v, e = .returned v ∧ φ v (· = N) w' ∧ w.grownBy w' (some N)) : StepOKE Tryz.prog news olds (knE L) w0 i o := by
  unfold StepOKE
  rw [knE_at hL]
  refine ⟨(fun j hj => by cases hj), ?_⟩
  intro Q d u S w b K hp hdi hR hd he hK
  have hiti : knE L i = .val (some N) none φ := by rw [knE_at hL]; rfl
  have hN : w.heap[N]? = w0.heap[N]? := hp.block N hlt fun j e φ' hj => by
    rw [knE_M heat j i e none φ' φ N hj hiti]
    exact hdi
  refine wp_call_fn f _ ts vs hf ho (hvs b (hu.eval heat hp hR hd)) ((hc w hN (Nat.lt_of_lt_of_le hlt hp.size)).mono ?_)
  rintro e w' ⟨v, rfl, hφ, hg⟩
  refine ⟨_, rfl, hK.out _ (· = N) w' (some N) hg (fun b h => by cases h; exact Or.inl rfl) hφ (fun g hg' => ?_)⟩
  subst hg'
  exact ⟨Or.inr rfl, Nat.lt_of_lt_of_le (Nat.lt_of_lt_of_le hlt hp.size) hg.size⟩
end

theorem run_nilCheck {o : Oper} {x : Operand} {ad : Addr} (ho : o.op = .nilCheck x) {b : Act} (e : b.eval x = .pointer (some ad)) (w : World) : (execOp b.eval o).run Tryz.prog w = .ok (.value (.pointer (some ad))) w := by
  unfold execOp; simp only [ho, e]; rfl

section
variable {news : List (Nat × Tmp)} {olds : List (Tmp × Value)} {L : List KnE} {w0 : World} {i : Nat} {o : Oper}
/-- A call of known arguments and of one that another operation has made. -/
theorem kn_callM {k ky : KnE} {e1 : Option Nat} {φ ψ : Value → (Nat → Prop) → World → Prop} (f : FuncId) (xs : Array Operand) (ts : Array TypeId) (mk : Value → Array Value) (uses : List (Nat × Tmp × Value)) (jy : Nat) (y : Tmp) (hf : Enters Tryz.prog f) (heat : eatB L = true) (hno : (L.all fun k => k.old.isNone) = true) (hL : L[i]? = some k) (hk : k.item = .val none none φ)
    (ho : o.op = .call { callee := .value (.func f), args := xs, argTypes := ts }) (hu : Uses news L o uses) (hy : (jy, y) ∈ news) (hjy : L[jy]? = some ky) (hky : ky.item = .val none e1 ψ) (hwy : waitsB o jy = true) (hne : (L.all fun k => k.eats != some jy) = true)
    (hvs : ∀ (b : Act) (vy : Value), (∀ p ∈ uses, b.eval (.tmp p.2.1) = p.2.2) → b.eval (.tmp y) = vy → xs.map b.eval = mk vy)
    (hc : ∀ w vy Sy, Below w0.heap.size w0 w → ψ vy Sy w → (∀ b, Sy b → w0.heap.size ≤ b ∧ b < w.heap.size) → Calls Tryz.prog f (mk vy) w fun e w' => ∃ v S', e = .returned v ∧ φ v S' w' ∧ (∀ b, S' b → w.heap.size ≤ b ∧ b < w'.heap.size) ∧ Below w.heap.size w w') : StepOKE Tryz.prog news olds (knE L) w0 i o := by
  unfold StepOKE
  rw [knE_at hL, hk]
  refine ⟨(fun j hj => by cases hj), ?_⟩
  intro Q d u S w b K hp hdi hR hd he hK
  obtain ⟨e2, h4, h5, h6⟩ := waits_of hwy
  obtain ⟨hψ, hSy⟩ := hp.val jy none e1 ψ (by rw [knE_at hjy, hky]) (by rw [← h6]; exact hd e2 h4 h5) (live_of hne)
  have ey := hR.1 _ hy
  simp only at ey
  refine wp_call_fn f _ ts (mk (u jy)) hf ho (hvs b (u jy) (hu.eval heat hp hR hd) ey) ((hc w (u jy) (S jy) (planE_low hp hno) hψ (fun b hb => ⟨(hSy b hb).1.elim (fun h => h) (fun h => by cases h), (hSy b hb).2⟩)).mono ?_)
  rintro e w' ⟨v, S', rfl, hφ, hS, hb⟩
  exact ⟨_, rfl, hK.out _ S' w' none (grown_of_below0 hb _) (fun b h => by cases h) hφ (fun g hg => ⟨Or.inl (hS g hg).1, (hS g hg).2⟩)⟩

/-- An operation over what another one has made. -/
theorem kn_runM {k ky : KnE} {e1 : Option Nat} {φ ψ : Value → (Nat → Prop) → World → Prop} (jy : Nat) (y : Tmp) (hL : L[i]? = some k) (hk : k.item = .val none none φ) (hy : (jy, y) ∈ news) (hjy : L[jy]? = some ky) (hky : ky.item = .val none e1 ψ) (hwy : waitsB o jy = true) (hne : (L.all fun k => k.eats != some jy) = true)
    (hrun : ∀ (b : Act) (w : World) (vy : Value) (Sy : Nat → Prop), ψ vy Sy w → b.eval (.tmp y) = vy → ∃ v, (execOp b.eval o).run Tryz.prog w = .ok (.value v) w ∧ φ v (fun _ => False) w) : StepOKE Tryz.prog news olds (knE L) w0 i o := by
  unfold StepOKE
  rw [knE_at hL, hk]
  refine ⟨(fun j hj => by cases hj), ?_⟩
  intro Q d u S w b K hp hdi hR hd he hK
  obtain ⟨e2, h4, h5, h6⟩ := waits_of hwy
  obtain ⟨hψ, _⟩ := hp.val jy none e1 ψ (by rw [knE_at hjy, hky]) (by rw [← h6]; exact hd e2 h4 h5) (live_of hne)
  have ey := hR.1 _ hy
  simp only at ey
  obtain ⟨v, hv, hφ⟩ := hrun b w (u jy) (S jy) hψ ey
  exact wp_of_run v hv (hK.out _ (fun _ => False) _ none (grown_of_below0 (Below.refl _ _) _) (fun b h => by cases h) hφ (fun _ h => h.elim))
end

section
variable {news : List (Nat × Tmp)} {olds : List (Tmp × Value)} {L : List KnE} {w0 : World} {i : Nat} {o : Oper}
/-- A call of known arguments. -/
theorem kn_callG {k : KnE} {φ : Value → (Nat → Prop) → World → Prop} (f : FuncId) (xs : Array Operand) (ts : Array TypeId) (vs : Array Value) (uses : List (Nat × Tmp × Value)) (hf : Enters Tryz.prog f) (heat : eatB L = true) (hno : (L.all fun k => k.old.isNone) = true) (hL : L[i]? = some k) (hk : k.item = .val none none φ)
    (ho : o.op = .call { callee := .value (.func f), args := xs, argTypes := ts }) (hu : Uses news L o uses) (hvs : ∀ b : Act, (∀ p ∈ uses, b.eval (.tmp p.2.1) = p.2.2) → xs.map b.eval = vs)
    (hc : ∀ w, Below w0.heap.size w0 w → Calls Tryz.prog f vs w fun e w' => ∃ v S', e = .returned v ∧ φ v S' w' ∧ (∀ b, S' b → w.heap.size ≤ b ∧ b < w'.heap.size) ∧ Below w.heap.size w w') : StepOKE Tryz.prog news olds (knE L) w0 i o := by
  unfold StepOKE
  rw [knE_at hL, hk]
  refine ⟨(fun j hj => by cases hj), ?_⟩
  intro Q d u S w b K hp hdi hR hd he hK
  refine wp_call_fn f _ ts vs hf ho (hvs b (hu.eval heat hp hR hd)) ((hc w (planE_low hp hno)).mono ?_)
  rintro e w' ⟨v, S', rfl, hφ, hS, hb⟩
  exact ⟨_, rfl, hK.out _ S' w' none (grown_of_below0 hb _) (fun b h => by cases h) hφ (fun g hg => ⟨Or.inl (hS g hg).1, (hS g hg).2⟩)⟩
end
end Go.Proofs.YtbdciilkapgfjaaGreatDoor
