/- A part of the proof. -/
import Derived.Test.YtjannccgfmclhaaGreatDoorSteps
namespace Go.Proofs.YtjannccgfmclhaaGreatDoor
open Go.RowKit

/-- The plan's closed facts: each operation waits for earlier ones alone, its guard among them, no slot is written twice, the slots are those that are named. -/
def planGB (ops : Array Oper) (n m : Nat) (news : List (Nat × Tmp)) (olds : List Tmp) : Bool :=
  decide (ops.size = n) && (ops.toList.zipIdx.all fun p => (match p.1.guard with | none => true | some (g, _) => waitsB p.1 g) && p.1.after.all fun e => !Region.binds .any e || decide (e.on < p.2)) && apartB ops.toList.zipIdx &&
  (news.all fun p => decide (p.2 < m) && (match ops[p.1]? with | some o => o.dst == some p.2 | none => false)) && (olds.all fun t => ops.toList.all fun o => o.dst != some t)

/-- A region that draws its order, some operations guarded, by a plan for the operations of T. -/
theorem plan_coreG {P : Program} {id : Nat} {ops : Array Oper} {Q : Exit → Act → World → Prop} {a : Act} {w : World} (nn m : Nat) (news : List (Nat × Tmp)) (olds : List (Tmp × Value)) (it : Nat → Item) (T : Nat → Bool) (hm : P.follows .mixedOrders = true)
    (hplan : planGB ops nn m news (olds.map (·.1)) = true) (hsize : a.tmps.size = m) (holds : ∀ p ∈ olds, a.eval (.tmp p.1) = p.2)
    (hst : ∀ i M φ, it i = .val M φ → ∀ v S w w', φ v S w → Same S w w' → φ v S w')
    (hM : ∀ i j φ ψ b, it i = .val (some b) φ → it j = .val (some b) ψ → i = j) (hMlt : ∀ i φ b, it i = .val (some b) φ → b < w.heap.size)
    (hlast : ((List.range nn).all fun i => T i || (List.range nn).all fun j => !T j || reachB ops nn i j) = true)
    (hguard : ∀ (i : Nat) (o : Oper) (g : Nat) (want : Bool), ops[i]? = some o → T i = true → o.guard = some (g, want) → it g = .val none (isV (.bool want)) ∧ ∃ t, (g, t) ∈ news)
    (hone : ∀ i j b s s', it i = .put b s → it j = .put b s' → i = j)
    (hrest : ∀ i, nn ≤ i ∨ T i = false → it i = .val none fun _ _ _ => True)
    (steps : ∀ i o, ops[i]? = some o → T i = true → StepOK P news olds it w i o)
    (fin : ∀ u S w', Plan it w (fun k => T k || decide (nn ≤ k)) u S w' → Reads news olds u (frameOf ops a u) → ∀ fuel listed, listed.size = nn → (∀ k, k < nn → listed.getD k true = T k) → unlisted listed.toList ≤ fuel → wpAny P .any ops Q fuel listed (frameOf ops a u) w') : (Code.region id ops true).wp P Q a w := by
  unfold planGB at hplan
  simp only [Bool.and_eq_true, decide_eq_true_eq] at hplan
  obtain ⟨⟨⟨⟨hn, hac⟩, hap⟩, hnews⟩, hol⟩ := hplan
  have hA := apart_of _ hap
  have hin : ∀ i o, ops[i]? = some o → (o, i) ∈ ops.toList.zipIdx := fun i o ho => by
    rw [List.mem_zipIdx_iff_getElem?]
    simpa using ho
  have hF : ∀ i o, ops[i]? = some o → ∀ u v, (frameOf ops a u).put o.dst v = frameOf ops a (upd u i v) := fun i o ho u v => frameL_step _ a u o i v hA (hin i o ho)
  have hg : ∀ i o, ops[i]? = some o → (match o.guard with | none => true | some (g, _) => waitsB o g) = true ∧ ∀ e ∈ o.after, Region.binds .any e = true → e.on < i := by
    intro i o ho
    have h2 := (List.all_eq_true.1 hac) _ (hin i o ho)
    rw [Bool.and_eq_true] at h2
    refine ⟨h2.1, fun e he hb => ?_⟩
    have h3 := (Array.all_eq_true_iff_forall_mem.1 h2.2) e he
    simpa [hb] using h3
  have hR : ∀ u, Reads news olds u (frameOf ops a u) := by
    intro u
    refine ⟨fun p hp => ?_, fun p hp => ?_⟩
    · have h1 := (List.all_eq_true.1 hnews) p hp
      simp only [Bool.and_eq_true, decide_eq_true_eq] at h1
      obtain ⟨h2, h3⟩ := h1
      split at h3
      · rename_i o ho
        exact frameL_new _ a u o p.1 p.2 hA (hin _ o ho) (by simpa using h3) (by rw [hsize]; exact h2)
      · cases h3
    · have h1 := (List.all_eq_true.1 hol) p.1 (List.mem_map.2 ⟨p, hp, rfl⟩)
      rw [← holds p hp]
      refine frameL_old _ a u p.1 fun q hq => ?_
      have h2 : q.1 ∈ ops.toList := by
        obtain ⟨o, i⟩ := q
        rw [List.mem_zipIdx_iff_getElem?] at hq
        exact List.mem_of_getElem? hq
      have h3 := (List.all_eq_true.1 h1) q.1 h2
      simpa using h3
  have hbs : ∀ j b' s', it j = .put b' s' → ∃ t n, it b' = .box t n := by
    intro j b' s' hj
    rcases Nat.lt_or_ge j ops.size with hlt | hge
    · cases hT : T j with
      | false => rw [hrest j (Or.inr hT)] at hj; cases hj
      | true =>
        obtain ⟨o, ho⟩ : ∃ o, ops[j]? = some o := ⟨ops[j], by simp [hlt]⟩
        have h := steps j o ho hT
        unfold StepOK at h
        rw [hj] at h
        obtain ⟨⟨t, n, M, φ, h1, _⟩, _⟩ := h
        exact ⟨t, n, h1⟩
    · rw [hrest j (Or.inl (by omega))] at hj; cases hj
  have hlast' : ∀ i o, ops[i]? = some o → T i = false → ∀ j, j < ops.size → T j = true → ∃ n, reachB ops n i j = true := by
    intro i o ho hTi j hj hTj
    have hi := (Array.getElem?_eq_some_iff.1 ho).1
    have h1 := (List.all_eq_true.1 hlast) i (List.mem_range.2 (by omega))
    rw [hTi, Bool.false_or] at h1
    have h2 := (List.all_eq_true.1 h1) j (List.mem_range.2 (by omega))
    rw [hTj, Bool.not_true, Bool.false_or] at h2
    exact ⟨nn, h2⟩
  have h0 : ∃ u0, frameOf ops a u0 = a := by
    refine ⟨fun i => (((ops[i]?).bind (·.dst)).map fun t => a.tmps.getD t undef).getD undef, frameL_self _ a _ fun p hp => ?_⟩
    obtain ⟨o, i⟩ := p
    rw [List.mem_zipIdx_iff_getElem?] at hp
    have ho : ops[i]? = some o := by simpa using hp
    simp [ho]
  obtain ⟨u0, hu0⟩ := h0
  rw [← hu0]
  refine wp_region_any hm (wpAny_of_steps T (fun d a1 w' => ∃ u S, a1 = frameOf ops a u ∧ Plan it w d u S w') (fun i o ho => (hg i o ho).2) hlast' ?_ ?_ _ _ _ _ (by simp) ?_ ?_ ?_ ?_)
  · rintro i o ho hTi d d' a1 w1 ⟨u, S, rfl, hp⟩ hdi hdeps hd'i hd'
    have h := steps i o ho hTi
    have hw : Region.wanted o (yielded ops (frameOf ops a u).tmps) = true := by
      unfold Region.wanted
      cases hgo : o.guard with
      | none => rfl
      | some gw =>
        obtain ⟨g, want⟩ := gw
        have h1 := (hg i o ho).1
        rw [hgo] at h1
        obtain ⟨e, he, hb, hon⟩ := waits_of h1
        have hdg : d g = true := by rw [← hon]; exact hdeps e he hb
        obtain ⟨h2, t, hmem⟩ := hguard i o g want ho hTi hgo
        have h3 : u g = .bool want := (hp.val g _ _ h2 hdg).1
        have h4 := (hR u).1 _ hmem
        have h5 := (List.all_eq_true.1 hnews) _ hmem
        simp only [Bool.and_eq_true, decide_eq_true_eq] at h5
        obtain ⟨h6, h7⟩ := h5
        split at h7
        · rename_i o' ho'
          have h8 : o'.dst = some t := by simpa using h7
          have h9 : (frameOf ops a u).tmps[t]? = some (.bool want) := by
            have hlt : t < (frameOf ops a u).tmps.size := by rw [frameOf_size, hsize]; exact h6
            have h10 : (frameOf ops a u).tmps.getD t undef = .bool want := by
              have : (frameOf ops a u).eval (.tmp t) = (frameOf ops a u).tmps.getD t undef := rfl
              rw [← this, h4, h3]
            simpa [hlt] using h10
          simp only [yielded, ho', Option.bind_some, h8, h9, beq_self_eq_true]
        · cases h7
    unfold wpOp
    simp only [ho, hw, if_true]
    refine .inl ?_
    unfold StepOK at h
    cases hi : it i with
    | val M φ =>
      rw [hi] at h
      exact h _ d u S w1 _ _ hp hdi (hR u) hdeps fun v S' w' hb hφ hS => ⟨upd u i v, upd S i S', hF i o ho u v, hp.step_val hd' hdi hd'i (fun k hk => upd_ne u v hk) hst hM hMlt hi hb (by rw [upd_same]; exact hφ) hS⟩
    | box t n =>
      rw [hi] at h
      obtain ⟨z, hn, hop, hz⟩ := h
      exact wp_alloc_box t z hop hz ⟨upd u i _, S, hF i o ho u _, hp.step_box hd' hdi hd'i (fun k hk => upd_ne u _ hk) hst hi hn (upd_same u i _)⟩
    | put b s =>
      rw [hi] at h
      obtain ⟨⟨t, n, M, φ, hb, hs, hag⟩, ⟨e1, he1, hb1, ho1⟩, ⟨e2, he2, hb2, ho2⟩, ty, x, y, hop, hx, hy, hinfo, hdst⟩ := h
      have hdb : d b = true := by rw [← ho1]; exact hdeps e1 he1 hb1
      have hds : d s = true := by rw [← ho2]; exact hdeps e2 he2 hb2
      obtain ⟨N, old, h1, h2, h3, h4⟩ := hp.box b t n hb hdb
      obtain ⟨cs, hcs, hsz, hone1⟩ := hag _ _ _ (hp.val s M φ hs hds).1
      refine wp_store_row ty (.tmp x) (.tmp y) hop N cs (((hR u).1 _ hx).trans h1) (((hR u).1 _ hy).trans hcs) t old h3 (by rw [hinfo t n hb, hsz]) (by omega) hone1 ?_
      exact ⟨upd u i undef, S, hF i o ho u undef, hp.step_put hd' hdi hd'i (fun k hk => upd_ne u _ hk) hst hi hb hdb hds h1 hcs hsz (fun j b' s' hj hjb => by subst hjb; exact hone j i b' s' s hj hi) hbs⟩
  · rintro d a1 w' hall ⟨u, S, rfl, hp⟩ fuel listed hsz hl hf
    have e : d = fun k => T k || decide (nn ≤ k) := funext fun k => by rw [hall k, hn]
    subst e
    exact fin u S w' hp (hR u) fuel listed (by omega) (fun k hk => hl k (by omega)) hf
  · simp [unlisted]
  · intro k o ho hk
    have := (Array.getElem?_eq_some_iff.1 ho).1
    simp [this] at hk
  · intro k hk _
    simp [hk]
  · refine ⟨u0, fun _ _ => False, rfl, ⟨rfl, rfl, rfl, Nat.le_refl _, fun _ _ _ => rfl, fun i M φ hi hd => ?_, fun i t n hi hd => ?_, fun i b s hi hd => ?_, fun i j t n t' n' hi _ hd _ _ => ?_, fun i M φ j t n N _ hj _ hd _ => ?_, fun i j M φ M' ψ hi _ hd _ _ b hb => hb.elim⟩⟩
    all_goals
      have hge : ∀ k, (Array.replicate ops.size false).getD k true = true → nn ≤ k := fun k hk => by
        rcases Nat.lt_or_ge k ops.size with h | h
        · simp [h] at hk
        · omega
    · have := hrest i (Or.inl (hge i hd))
      rw [hi] at this; cases this
      exact ⟨trivial, fun b hb => hb.elim⟩
    · have := hrest i (Or.inl (hge i hd))
      rw [hi] at this; cases this
    · have := hrest i (Or.inl (hge i hd))
      rw [hi] at this; cases this
    · have := hrest i (Or.inl (hge i hd))
      rw [hi] at this; cases this
    · have := hrest j (Or.inl (hge j hd))
      rw [hj] at this; cases this

/-- A region that draws its order, some operations guarded, each guard known to let them by. -/
theorem plan_regionG {P : Program} {id : Nat} {ops : Array Oper} {Q : Exit → Act → World → Prop} {a : Act} {w : World} (nn m : Nat) (news : List (Nat × Tmp)) (olds : List (Tmp × Value)) (it : Nat → Item) (hm : P.follows .mixedOrders = true)
    (hplan : planGB ops nn m news (olds.map (·.1)) = true) (hsize : a.tmps.size = m) (holds : ∀ p ∈ olds, a.eval (.tmp p.1) = p.2)
    (hst : ∀ i M φ, it i = .val M φ → ∀ v S w w', φ v S w → Same S w w' → φ v S w')
    (hnone : ∀ i M φ, it i = .val M φ → M = none)
    (hguard : ∀ (i : Nat) (o : Oper) (g : Nat) (want : Bool), ops[i]? = some o → o.guard = some (g, want) → it g = .val none (isV (.bool want)) ∧ ∃ t, (g, t) ∈ news)
    (hone : ∀ i j b s s', it i = .put b s → it j = .put b s' → i = j)
    (hrest : ∀ i, nn ≤ i → it i = .val none fun _ _ _ => True)
    (steps : ∀ i o, ops[i]? = some o → StepOK P news olds it w i o)
    (fin : ∀ u S w', Plan it w (fun _ => true) u S w' → Q .normal (frameOf ops a u) w') : (Code.region id ops true).wp P Q a w := by
  refine plan_coreG nn m news olds it (fun _ => true) hm hplan hsize holds hst (fun i _ φ _ b h _ => by have := hnone i _ φ h; cases this) (fun i φ b h => by have := hnone i _ φ h; cases this) (by simp) (fun i o g want ho _ hgo => hguard i o g want ho hgo) hone
    (fun i h => hrest i (h.elim (fun h => h) (fun h => by cases h))) (fun i o ho _ => steps i o ho) fun u S w' hp _ fuel listed hsz hl hf => ?_
  have hr : Region.ready .any ops listed = [] := by
    apply List.eq_nil_iff_forall_not_mem.2
    intro j hj
    obtain ⟨h0, o, ho, _⟩ := mem_ready.1 hj
    have hlt : j < nn := by
      rcases Nat.lt_or_ge j nn with h | h
      · exact h
      · simp [Array.getElem?_eq_none (show listed.size ≤ j by omega)] at h0
    rw [hl j hlt] at h0; cases h0
  exact wpAny_done hr (fin u S w' (by simpa using hp)) fuel

section
variable {news : List (Nat × Tmp)} {olds : List (Tmp × Value)} {it : Nat → Item} {w0 : World} {i : Nat} {o : Oper}

/-- An operation that runs to a value that is known, of operands that are. -/
theorem step_run {v : Value} (uses : List (Nat × Tmp × Value)) (hit : it i = .val none (isV v)) (hlow : ∀ j M φ, it j = .val M φ → M = none)
    (huse : ∀ p ∈ uses, (p.1, p.2.1) ∈ news ∧ it p.1 = .val none (isV p.2.2) ∧ waitsB o p.1 = true)
    (hrun : ∀ (b : Act) (w : World), (∀ p ∈ uses, b.eval (.tmp p.2.1) = p.2.2) → (∀ p ∈ olds, b.eval (.tmp p.1) = p.2) → Below w0.heap.size w0 w → (execOp b.eval o).run Tryz.prog w = .ok (.value v) w) : StepOK Tryz.prog news olds it w0 i o := by
  unfold StepOK
  rw [hit]
  intro Q d u S w b K hp hdi hR hd hK
  refine wp_of_run v (hrun b w (fun p hpu => ?_) hR.2 (hp.low hlow)) (hK.out _ (fun _ => False) _ (grown_of_below0 (Below.refl _ _) _) rfl (fun _ h => h.elim))
  obtain ⟨h1, h2, h3⟩ := huse p hpu
  obtain ⟨e1, h4, h5, h6⟩ := waits_of h3
  exact (hR.1 _ h1).trans (isV_of hp h2 (by rw [← h6]; exact hd e1 h4 h5))

/-- A call of known arguments that gives a value that is known. -/
theorem step_callV {v : Value} (f : FuncId) (xs : Array Operand) (ts : Array TypeId) (vs : Array Value) (uses : List (Nat × Tmp × Value)) (hf : Enters Tryz.prog f) (hit : it i = .val none (isV v)) (hlow : ∀ j M φ, it j = .val M φ → M = none)
    (ho : o.op = .call { callee := .value (.func f), args := xs, argTypes := ts })
    (huse : ∀ p ∈ uses, (p.1, p.2.1) ∈ news ∧ it p.1 = .val none (isV p.2.2) ∧ waitsB o p.1 = true)
    (hvs : ∀ b : Act, (∀ p ∈ uses, b.eval (.tmp p.2.1) = p.2.2) → (∀ p ∈ olds, b.eval (.tmp p.1) = p.2) → xs.map b.eval = vs)
    (hc : ∀ w, Below w0.heap.size w0 w → Calls Tryz.prog f vs w fun e w' => e = .returned v ∧ Below w.heap.size w w') : StepOK Tryz.prog news olds it w0 i o := by
  unfold StepOK
  rw [hit]
  intro Q d u S w b K hp hdi hR hd hK
  have hu : ∀ p ∈ uses, b.eval (.tmp p.2.1) = p.2.2 := fun p hpu => by
    obtain ⟨h1, h2, h3⟩ := huse p hpu
    obtain ⟨e1, h4, h5, h6⟩ := waits_of h3
    exact (hR.1 _ h1).trans (isV_of hp h2 (by rw [← h6]; exact hd e1 h4 h5))
  refine wp_call_fn f _ ts vs hf ho (hvs b hu hR.2) ((hc w (hp.low hlow)).mono ?_)
  rintro e w' ⟨rfl, hb⟩
  exact ⟨v, rfl, hK.out v (fun _ => False) w' (grown_of_below0 hb _) rfl (fun _ h => h.elim)⟩

/-- A call of known arguments whose result reads as a value in new memory. -/
theorem step_callR {j : J} (f : FuncId) (xs : Array Operand) (ts : Array TypeId) (vs : Array Value) (uses : List (Nat × Tmp × Value)) (hf : Enters Tryz.prog f) (hit : it i = .val none (ResIs j)) (hlow : ∀ j M φ, it j = .val M φ → M = none)
    (ho : o.op = .call { callee := .value (.func f), args := xs, argTypes := ts })
    (huse : ∀ p ∈ uses, (p.1, p.2.1) ∈ news ∧ it p.1 = .val none (isV p.2.2) ∧ waitsB o p.1 = true)
    (hvs : ∀ b : Act, (∀ p ∈ uses, b.eval (.tmp p.2.1) = p.2.2) → (∀ p ∈ olds, b.eval (.tmp p.1) = p.2) → xs.map b.eval = vs)
    (hc : ∀ w, Below w0.heap.size w0 w → Calls Tryz.prog f vs w fun e w' => ∃ c, e = .returned (resVal c 0) ∧ VR w' (New w.heap.size w') j c ∧ Below w.heap.size w w') : StepOK Tryz.prog news olds it w0 i o := by
  unfold StepOK
  rw [hit]
  intro Q d u S w b K hp hdi hR hd hK
  have hu : ∀ p ∈ uses, b.eval (.tmp p.2.1) = p.2.2 := fun p hpu => by
    obtain ⟨h1, h2, h3⟩ := huse p hpu
    obtain ⟨e1, h4, h5, h6⟩ := waits_of h3
    exact (hR.1 _ h1).trans (isV_of hp h2 (by rw [← h6]; exact hd e1 h4 h5))
  refine wp_call_fn f _ ts vs hf ho (hvs b hu hR.2) ((hc w (hp.low hlow)).mono ?_)
  rintro e w' ⟨c, rfl, hV, hb⟩
  exact ⟨_, rfl, hK.out _ (New w.heap.size w') w' (grown_of_below0 hb _) ⟨c, rfl, hV⟩ (fun b h => ⟨Or.inl h.1, h.2⟩)⟩

/-- A call of a Res that reads as a value and of a value that is known: its result is known. -/
theorem step_callRV {j : J} {Y R : Value} (f jx jy : Nat) (x y : Tmp) (ts : Array TypeId) (hf : Enters Tryz.prog f) (hit : it i = .val none (isV R)) (hlow : ∀ j M φ, it j = .val M φ → M = none) (ho : o.op = .call { callee := .value (.func f), args := #[.tmp x, .tmp y], argTypes := ts })
    (hx : (jx, x) ∈ news) (hy : (jy, y) ∈ news) (hix : it jx = .val none (ResIs j)) (hiy : it jy = .val none (isV Y)) (hwx : waitsB o jx = true) (hwy : waitsB o jy = true)
    (hc : ∀ w c S, Below w0.heap.size w0 w → VR w S j c → (∀ b, S b → b < w.heap.size) → Calls Tryz.prog f #[resVal c 0, Y] w fun e w' => e = .returned R ∧ Below w.heap.size w w') : StepOK Tryz.prog news olds it w0 i o := by
  unfold StepOK
  rw [hit]
  intro Q d u S w b K hp hdi hR hd hK
  obtain ⟨e1, h1, h2, h3⟩ := waits_of hwx
  obtain ⟨e2, h4, h5, h6⟩ := waits_of hwy
  obtain ⟨⟨c, hc1, hV⟩, hlt⟩ := hp.val jx _ _ hix (by rw [← h3]; exact hd e1 h1 h2)
  have uy := isV_of hp hiy (by rw [← h6]; exact hd e2 h4 h5)
  have ex := (hR.1 _ hx).trans hc1
  have ey := (hR.1 _ hy).trans uy
  refine wp_call_fn f _ ts #[resVal c 0, Y] hf ho (by simp only [List.map_toArray, List.map_cons, List.map_nil, ex, ey]) ((hc w c _ (hp.low hlow) hV (fun b hb => (hlt b hb).2)).mono ?_)
  rintro e w' ⟨rfl, hb⟩
  exact ⟨R, rfl, hK.out R (fun _ => False) w' (grown_of_below0 hb _) rfl (fun _ h => h.elim)⟩
end
end Go.Proofs.YtjannccgfmclhaaGreatDoor

namespace Go.Proofs.YtjannccgfmclhaaGreatDoor
open Go.RowKit

/-- What an operation is good for: a value that is known, a Res that reads as a value, a box of a Res, the store of such a one. -/
inductive Kn where
  | v (x : Value)
  | r (j : J)
  | box
  | put (b s : Nat)
def Kn.item : Kn → Item
  | .v x => .val none (isV x)
  | .r j => .val none (ResIs j)
  | .box => .box 30 7
  | .put b s => .put b s
def knIt (L : List Kn) : Nat → Item := fun i => match L[i]? with | some k => k.item | none => .val none fun _ _ _ => True
theorem knIt_st (L : List Kn) : ∀ i M φ, knIt L i = .val M φ → ∀ v S w w', φ v S w → Same S w w' → φ v S w' := by
  intro i M φ hi v S w w' h hb
  unfold knIt at hi
  split at hi
  · rename_i k _
    cases k with
    | v x => cases hi; exact h
    | r j => cases hi; exact ResIs.st j _ _ _ _ h hb
    | box => cases hi
    | put b s => cases hi
  · cases hi; trivial
theorem knIt_none (L : List Kn) : ∀ i M φ, knIt L i = .val M φ → M = none := by
  intro i M φ hi
  unfold knIt at hi
  split at hi
  · rename_i k _
    cases k <;> cases hi <;> rfl
  · cases hi; rfl
theorem knIt_rest (L : List Kn) (n : Nat) (h : L.length = n) : ∀ i, n ≤ i → knIt L i = .val none fun _ _ _ => True := by
  intro i hi
  unfold knIt
  rw [List.getElem?_eq_none (by omega)]
/-- Each box is filled once. -/
def Kn.toB : Kn → Option Nat | .put b _ => some b | _ => none
def onceB : List (Option Nat) → Bool
  | [] => true
  | none :: L => onceB L
  | some b :: L => !(L.any (· == some b)) && onceB L
theorem once_of : ∀ (L : List (Option Nat)), onceB L = true → ∀ (i j b : Nat), L[i]? = some (some b) → L[j]? = some (some b) → i = j
  | [], _, i, _, _, h, _ => by simp at h
  | none :: L, h, i, j, b, hi, hj => by
    cases i with
    | zero => simp at hi
    | succ i =>
      cases j with
      | zero => simp at hj
      | succ j => simp only [List.getElem?_cons_succ] at hi hj; rw [once_of L h i j b hi hj]
  | some c :: L, h, i, j, b, hi, hj => by
    simp only [onceB, Bool.and_eq_true, Bool.not_eq_true', List.any_eq_false, beq_iff_eq] at h
    cases i with
    | zero =>
      cases j with
      | zero => rfl
      | succ j =>
        simp only [List.getElem?_cons_zero, Option.some.injEq, List.getElem?_cons_succ] at hi hj
        subst hi
        exact absurd rfl (h.1 _ (List.mem_of_getElem? hj))
    | succ i =>
      cases j with
      | zero =>
        simp only [List.getElem?_cons_zero, Option.some.injEq, List.getElem?_cons_succ] at hi hj
        subst hj
        exact absurd rfl (h.1 _ (List.mem_of_getElem? hi))
      | succ j => simp only [List.getElem?_cons_succ] at hi hj; rw [once_of L h.2 i j b hi hj]
theorem knIt_one (L : List Kn) (h : onceB (L.map Kn.toB) = true) : ∀ i j b s s', knIt L i = .put b s → knIt L j = .put b s' → i = j := by
  have key : ∀ i b s, knIt L i = .put b s → (L.map Kn.toB)[i]? = some (some b) := by
    intro i b s hi
    unfold knIt at hi
    split at hi
    · rename_i k hk
      rw [List.getElem?_map, hk]
      cases k <;> cases hi
      rfl
    · cases hi
  intro i j b s s' hi hj
  exact once_of _ h i j b (key i b s hi) (key j b s' hj)

section
variable {news : List (Nat × Tmp)} {olds : List (Tmp × Value)} {it : Nat → Item} {w0 : World} {i : Nat} {o : Oper}

/-- An operation over slots that lay there. -/
theorem step_run0 {v : Value} (hit : it i = .val none (isV v)) (hlow : ∀ j M φ, it j = .val M φ → M = none)
    (hrun : ∀ (b : Act) (w : World), (∀ p ∈ olds, b.eval (.tmp p.1) = p.2) → Below w0.heap.size w0 w → (execOp b.eval o).run Tryz.prog w = .ok (.value v) w) : StepOK Tryz.prog news olds it w0 i o :=
  step_run [] hit hlow (fun p hp => by cases hp) (fun b w _ ho hb => hrun b w ho hb)
/-- An operation over one value that has come up. -/
theorem step_run1 {v X : Value} (j : Nat) (x : Tmp) (hit : it i = .val none (isV v)) (hlow : ∀ j M φ, it j = .val M φ → M = none) (hx : (j, x) ∈ news) (hix : it j = .val none (isV X)) (hw : waitsB o j = true)
    (hrun : ∀ (b : Act) (w : World), b.eval (.tmp x) = X → (∀ p ∈ olds, b.eval (.tmp p.1) = p.2) → Below w0.heap.size w0 w → (execOp b.eval o).run Tryz.prog w = .ok (.value v) w) : StepOK Tryz.prog news olds it w0 i o :=
  step_run [(j, x, X)] hit hlow (fun p hp => by obtain rfl := List.mem_singleton.1 hp; exact ⟨hx, hix, hw⟩) (fun b w hu ho hb => hrun b w (hu _ List.mem_cons_self) ho hb)
/-- An operation over two values that have come up. -/
theorem step_run2 {v X Y : Value} (j k : Nat) (x y : Tmp) (hit : it i = .val none (isV v)) (hlow : ∀ j M φ, it j = .val M φ → M = none) (hx : (j, x) ∈ news) (hix : it j = .val none (isV X)) (hw : waitsB o j = true)
    (hy : (k, y) ∈ news) (hiy : it k = .val none (isV Y)) (hwy : waitsB o k = true)
    (hrun : ∀ (b : Act) (w : World), b.eval (.tmp x) = X → b.eval (.tmp y) = Y → (∀ p ∈ olds, b.eval (.tmp p.1) = p.2) → Below w0.heap.size w0 w → (execOp b.eval o).run Tryz.prog w = .ok (.value v) w) : StepOK Tryz.prog news olds it w0 i o :=
  step_run [(j, x, X), (k, y, Y)] hit hlow (fun p hp => by
    rcases List.mem_cons.1 hp with rfl | hp
    · exact ⟨hx, hix, hw⟩
    · obtain rfl := List.mem_singleton.1 hp; exact ⟨hy, hiy, hwy⟩) (fun b w hu ho hb => hrun b w (hu _ List.mem_cons_self) (hu _ (List.mem_cons_of_mem _ List.mem_cons_self)) ho hb)

/-- A Res that lay in its box. -/
theorem step_loadR {c : VC} {e : Int} {N : Nat} (t : Tmp) (hit : it i = .val none (isV (resVal c e))) (ho : o.op = .load 30 (.tmp t)) (hmem : (t, Value.pointer (some ⟨N, 0, none⟩)) ∈ olds) (hb : ResBox w0 N c e) (hlow : ∀ j M φ, it j = .val M φ → M = none) : StepOK Tryz.prog news olds it w0 i o := by
  unfold StepOK
  rw [hit]
  intro Q d u S w b K hp hdi hR hd hK
  exact wp_load_row 30 (.tmp t) ho N (hR.2 _ hmem) 30 _ (0, 0) _ (hb.below (hp.low hlow) hb.lt) Tryz.underlying30 rfl size_res (hK.out _ (fun _ => False) _ (grown_of_below0 (Below.refl _ _) _) rfl (fun _ h => h.elim))
end
end Go.Proofs.YtjannccgfmclhaaGreatDoor

namespace Go.Proofs.YtjannccgfmclhaaGreatDoor
open Go.RowKit

theorem fieldRes0 (N : Nat) (w : World) : (Instr.fieldAt 30 (.pointer (some ⟨N, 0, none⟩)) 0).run Tryz.prog w = .ok (.pointer (some ⟨N, 0, none⟩)) w := by go_simp
theorem fieldRes1 (N : Nat) (w : World) : (Instr.fieldAt 30 (.pointer (some ⟨N, 0, none⟩)) 1).run Tryz.prog w = .ok (.pointer (some ⟨N, 6, none⟩)) w := by go_simp
theorem fieldVal0 (N : Nat) (w : World) : (Instr.fieldAt 26 (.pointer (some ⟨N, 0, none⟩)) 0).run Tryz.prog w = .ok (.pointer (some ⟨N, 0, none⟩)) w := by go_simp
theorem fieldVal3 (N : Nat) (w : World) : (Instr.fieldAt 26 (.pointer (some ⟨N, 0, none⟩)) 3).run Tryz.prog w = .ok (.pointer (some ⟨N, 3, none⟩)) w := by go_simp
theorem loadInt (N off : Nat) (v : Value) (w : World) (h : w.cell? ⟨N, off, none⟩ = some v) : (Instr.loadAt 3 (.pointer (some ⟨N, off, none⟩))).run Tryz.prog w = .ok v w := by go_simp
theorem loadKind (N off : Nat) (v : Value) (w : World) (h : w.cell? ⟨N, off, none⟩ = some v) : (Instr.loadAt 22 (.pointer (some ⟨N, off, none⟩))).run Tryz.prog w = .ok v w := by go_simp
theorem loadValues (N off : Nat) (v : Value) (w : World) (h : w.cell? ⟨N, off, none⟩ = some v) : (Instr.loadAt 23 (.pointer (some ⟨N, off, none⟩))).run Tryz.prog w = .ok v w := by go_simp

section
variable {news : List (Nat × Tmp)} {olds : List (Tmp × Value)} {it : Nat → Item} {w0 : World} {i : Nat} {o : Oper}

/-- The address of a field of what another operation has given. -/
theorem step_field1 {N off off' : Nat} (t : TypeId) (f : Nat) (j : Nat) (x : Tmp) (hit : it i = .val none (isV (.pointer (some ⟨N, off', none⟩)))) (ho : o.op = .fieldAddr t (.tmp x) f) (hlow : ∀ j M φ, it j = .val M φ → M = none)
    (hx : (j, x) ∈ news) (hix : it j = .val none (isV (.pointer (some ⟨N, off, none⟩)))) (hw : waitsB o j = true)
    (hrun : ∀ w, (Instr.fieldAt t (.pointer (some ⟨N, off, none⟩)) f).run Tryz.prog w = .ok (.pointer (some ⟨N, off', none⟩)) w) : StepOK Tryz.prog news olds it w0 i o :=
  step_run1 j x hit hlow hx hix hw fun b w e _ _ => by unfold execOp; simp only [ho, e, Sem.run_bind, hrun, Sem.run_pure, Result.andThen_ok]
/-- A cell that lay there, its address by another operation. -/
theorem step_load1 {a : Addr} {v : Value} (t : TypeId) (j : Nat) (x : Tmp) (hit : it i = .val none (isV v)) (ho : o.op = .load t (.tmp x)) (hlow : ∀ j M φ, it j = .val M φ → M = none) (hx : (j, x) ∈ news) (hix : it j = .val none (isV (.pointer (some a)))) (hw : waitsB o j = true)
    (hc : w0.cell? a = some v) (hlt : a.block < w0.heap.size) (hload : ∀ w, w.cell? a = some v → (Instr.loadAt t (.pointer (some a))).run Tryz.prog w = .ok v w) : StepOK Tryz.prog news olds it w0 i o :=
  step_run1 j x hit hlow hx hix hw fun b w e _ hb => by unfold execOp; simp only [ho, e, Sem.run_bind, hload w ((hb.cell hlt).trans hc), Sem.run_pure, Result.andThen_ok]
/-- A move of what another operation has given. -/
theorem step_move1 {v : Value} (j : Nat) (x : Tmp) (hit : it i = .val none (isV v)) (ho : o.op = .move (.tmp x)) (hlow : ∀ j M φ, it j = .val M φ → M = none) (hx : (j, x) ∈ news) (hix : it j = .val none (isV v)) (hw : waitsB o j = true) : StepOK Tryz.prog news olds it w0 i o :=
  step_run1 j x hit hlow hx hix hw fun b w e _ _ => by unfold execOp; simp only [ho, e]; rfl
theorem step_not {c : Bool} (t : TypeId) (j : Nat) (x : Tmp) (hit : it i = .val none (isV (.bool (!c)))) (ho : o.op = .unOp .not t (.tmp x)) (hlow : ∀ j M φ, it j = .val M φ → M = none) (hx : (j, x) ∈ news) (hix : it j = .val none (isV (.bool c))) (hw : waitsB o j = true) : StepOK Tryz.prog news olds it w0 i o :=
  step_run1 j x hit hlow hx hix hw fun b w e _ _ => by unfold execOp; simp only [ho, e]; rfl
/-- '||': the test ahead was false. -/
theorem step_or {c : Bool} (j k : Nat) (x y : Tmp) (hit : it i = .val none (isV (.bool c))) (ho : o.op = .pick (.tmp x) (.const (.bool true)) (.tmp y)) (hlow : ∀ j M φ, it j = .val M φ → M = none) (hx : (j, x) ∈ news) (hix : it j = .val none (isV (.bool false))) (hw : waitsB o j = true)
    (hy : (k, y) ∈ news) (hiy : it k = .val none (isV (.bool c))) (hwy : waitsB o k = true) : StepOK Tryz.prog news olds it w0 i o :=
  step_run2 j k x y hit hlow hx hix hw hy hiy hwy fun b w e e2 _ _ => by unfold execOp; simp only [ho, e, e2]; rfl
theorem step_neqC {a c : Int} {e : Bool} (t t' : TypeId) (ht : t = 3 ∨ t = 22) (j : Nat) (x : Tmp) (hit : it i = .val none (isV (.bool e))) (he : decide (a ≠ c) = e) (ho : o.op = .binOp .neq t (.tmp x) (.const (.int .i64 c)) t') (hlow : ∀ j M φ, it j = .val M φ → M = none) (hx : (j, x) ∈ news) (hix : it j = .val none (isV (.int .i64 a))) (hw : waitsB o j = true) : StepOK Tryz.prog news olds it w0 i o :=
  step_run1 j x hit hlow hx hix hw fun b w e1 _ _ => by
    have ec : b.eval (.const (.int .i64 c)) = .int .i64 c := rfl
    unfold execOp
    simp only [ho, e1, ec]
    rw [← he]
    rcases ht with rfl | rfl
    all_goals
      by_cases h : a = c
      · subst h; go_simp
      · go_simp
theorem step_neq {a c : Int} {e : Bool} (t t' : TypeId) (ht : t = 3 ∨ t = 22) (j k : Nat) (x y : Tmp) (hit : it i = .val none (isV (.bool e))) (he : decide (a ≠ c) = e) (ho : o.op = .binOp .neq t (.tmp x) (.tmp y) t') (hlow : ∀ j M φ, it j = .val M φ → M = none) (hx : (j, x) ∈ news) (hix : it j = .val none (isV (.int .i64 a))) (hw : waitsB o j = true)
    (hy : (k, y) ∈ news) (hiy : it k = .val none (isV (.int .i64 c))) (hwy : waitsB o k = true) : StepOK Tryz.prog news olds it w0 i o :=
  step_run2 j k x y hit hlow hx hix hw hy hiy hwy fun b w e1 e2 _ _ => by
    unfold execOp
    simp only [ho, e1, e2]
    rw [← he]
    rcases ht with rfl | rfl
    all_goals
      by_cases h : a = c
      · subst h; go_simp
      · go_simp
theorem step_len {a : Option Addr} {n c : Nat} (j : Nat) (x : Tmp) (hit : it i = .val none (isV (.int .i64 (n : Int)))) (ho : o.op = .call { callee := .builtin .len, args := #[.tmp x], argTypes := #[23] }) (hlow : ∀ j M φ, it j = .val M φ → M = none) (hx : (j, x) ∈ news) (hix : it j = .val none (isV (.slice a n c))) (hw : waitsB o j = true) : StepOK Tryz.prog news olds it w0 i o :=
  step_run1 j x hit hlow hx hix hw fun b w e _ _ => by
    unfold execOp
    simp only [ho, resolve, List.map_toArray, List.map_cons, List.map_nil, e]
    go_simp
/-- The address of an element. -/
theorem step_index {xb xo n c m : Nat} (j k : Nat) (x y : Tmp) (hm : m < n) (hit : it i = .val none (isV (.pointer (some ⟨xb, xo + m * 6, none⟩)))) (ho : o.op = .indexAddr 23 (.tmp x) (.tmp y)) (hlow : ∀ j M φ, it j = .val M φ → M = none) (hx : (j, x) ∈ news) (hix : it j = .val none (isV (.slice (some ⟨xb, xo, none⟩) n c))) (hw : waitsB o j = true)
    (hy : (k, y) ∈ news) (hiy : it k = .val none (isV (.int .i64 (m : Int)))) (hwy : waitsB o k = true) : StepOK Tryz.prog news olds it w0 i o :=
  step_run2 j k x y hit hlow hx hix hw hy hiy hwy fun b w e1 e2 _ _ => by
    unfold execOp
    simp only [ho, e1, e2]
    go_simp
theorem load_at6 {b o : Nat} {c : VC} {w : World} (h : At6 w b o c) : (Instr.loadAt 26 (.pointer (some ⟨b, o, none⟩))).run Tryz.prog w = .ok (VC.val c) w := by
  have h0 := h.c0; have h1 := h.c1; have h2 := h.c2; have h3 := h.c3; have h4 := h.c4; have h5 := h.c5
  unfold VC.val VC.arr
  go_simp
/-- A Value that lay in a row, its address by another operation. -/
theorem step_load6 {xb xo : Nat} {c : VC} (j : Nat) (x : Tmp) (hit : it i = .val none (isV (VC.val c))) (ho : o.op = .load 26 (.tmp x)) (hlow : ∀ j M φ, it j = .val M φ → M = none) (hx : (j, x) ∈ news) (hix : it j = .val none (isV (.pointer (some ⟨xb, xo, none⟩)))) (hw : waitsB o j = true)
    (hc : At6 w0 xb xo c) (hlt : xb < w0.heap.size) : StepOK Tryz.prog news olds it w0 i o :=
  step_run1 j x hit hlow hx hix hw fun b w e _ hb => by unfold execOp; simp only [ho, e, Sem.run_bind, load_at6 (hc.below hb hlt), Sem.run_pure, Result.andThen_ok]
theorem step_buildTrue (hit : it i = .val none (isV (VC.val {VC.nil with k := 2}))) (ho : o.op = .build 26 #[(0, .const (.int .i64 2))]) (hlow : ∀ j M φ, it j = .val M φ → M = none) : StepOK Tryz.prog news olds it w0 i o :=
  step_run0 hit hlow fun b w _ _ => by
    unfold execOp VC.val VC.arr VC.nil
    simp only [ho]
    go_simp
    rfl
/-- A move of what lay in a slot. -/
theorem step_move0 {v : Value} (x : Tmp) (hit : it i = .val none (isV v)) (ho : o.op = .move (.tmp x)) (hlow : ∀ j M φ, it j = .val M φ → M = none) (hmem : (x, v) ∈ olds) : StepOK Tryz.prog news olds it w0 i o :=
  step_run0 hit hlow fun b w ho' _ => by have e := ho' _ hmem; simp only at e; unfold execOp; simp only [ho, e]; rfl
end
end Go.Proofs.YtjannccgfmclhaaGreatDoor
