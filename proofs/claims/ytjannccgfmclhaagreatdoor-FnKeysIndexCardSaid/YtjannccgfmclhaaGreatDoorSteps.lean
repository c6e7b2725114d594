/- Single operations of a region that draws its order, each by its law. -/
import Derived.Test.YtjannccgfmclhaaGreatDoorPlan
import Derived.Deep.AppendLies
namespace Go.Proofs.YtjannccgfmclhaaGreatDoor
open Go.RowKit

/-- A Res that reads as a value. -/
def ResIs (j : J) : Value → (Nat → Prop) → World → Prop := fun v S w => ∃ c, v = resVal c 0 ∧ VR w S j c
theorem ResIs.st (j : J) : ∀ v S w w', ResIs j v S w → Same S w w' → ResIs j v S w' := fun _ _ _ _ ⟨c, e, hV⟩ hb => ⟨c, e, hV.go hb (fun _ h => h)⟩

section
variable {news : List (Nat × Tmp)} {olds : List (Tmp × Value)} {it : Nat → Item} {w0 : World} {i : Nat} {o : Oper}

/-- A call of one argument that is known, whose result reads as a value in new memory. -/
theorem step_call1 {X : Value} {j : J} (f jx : Nat) (x : Tmp) (ts : Array TypeId) (hf : Enters Tryz.prog f) (hit : it i = .val none (ResIs j)) (ho : o.op = .call { callee := .value (.func f), args := #[.tmp x], argTypes := ts })
    (hx : (jx, x) ∈ news) (hix : it jx = .val none (isV X)) (hwx : waitsB o jx = true)
    (hlow : ∀ j M φ, it j = .val M φ → M = none)
    (hc : ∀ w, Below w0.heap.size w0 w → Calls Tryz.prog f #[X] w fun e w' => ∃ c, e = .returned (resVal c 0) ∧ VR w' (New w.heap.size w') j c ∧ Below w.heap.size w w') : StepOK Tryz.prog news olds it w0 i o := by
  unfold StepOK
  rw [hit]
  intro Q d u S w b K hp hdi hR hd hK
  obtain ⟨e1, h1, h2, h3⟩ := waits_of hwx
  have ux := isV_of hp hix (by rw [← h3]; exact hd e1 h1 h2)
  have ex := (hR.1 _ hx).trans ux
  refine wp_call_fn f _ ts #[X] hf ho (by simp only [List.map_toArray, List.map_cons, List.map_nil, ex]) ((hc w (hp.low hlow)).mono ?_)
  rintro e w' ⟨c, rfl, hV, hb⟩
  exact ⟨_, rfl, hK.out _ (New w.heap.size w') w' (grown_of_below0 hb _) ⟨c, rfl, hV⟩ (fun b h => ⟨Or.inl h.1, h.2⟩)⟩

theorem step_put1 {j : J} (b s : Nat) (x y : Tmp) (hit : it i = .put b s) (hb : it b = .box 30 7) (hs : it s = .val none (ResIs j)) (ho : o.op = .store 30 (.tmp x) (.tmp y)) (hx : (b, x) ∈ news) (hy : (s, y) ∈ news) (hwb : waitsB o b = true) (hws : waitsB o s = true) (hd : o.dst = none) :
    StepOK Tryz.prog news olds it w0 i o := by
  unfold StepOK
  rw [hit]
  exact ⟨⟨_, _, none, _, hb, hs, fun v S w ⟨c, hv, _⟩ => by rw [hv]; exact res_cells c 0⟩, waits_of hwb, waits_of hws, 30, x, y, ho, hx, hy, (fun t n h => by rw [hb] at h; cases h; exact size_res), hd⟩
end

/-- A box of a Res that reads as a value. -/
theorem plan_res1 {it : Nat → Item} {w0 : World} {u : Nat → Value} {S : Nat → Nat → Prop} {w : World} (hp : Plan it w0 (fun _ => true) u S w) {i b s : Nat} {j : J} (hi : it i = .put b s) (hb : it b = .box 30 7) (hs : it s = .val none (ResIs j)) :
    ∃ N c, u b = .pointer (some ⟨N, 0, none⟩) ∧ w0.heap.size ≤ N ∧ ResBox w N c 0 ∧ VR w (S s) j c := by
  obtain ⟨_, _, N, cs, t, h1, h2, _, h3⟩ := hp.put i b s hi rfl
  obtain ⟨N', cs', h4, h5, h6, h7⟩ := hp.box b _ _ hb rfl
  rw [h1] at h4; cases h4
  obtain ⟨c, h8, hV⟩ := (hp.val s _ _ hs rfl).1
  rw [h2] at h8
  rw [h3] at h6
  cases h6
  unfold resVal at h8
  cases h8
  exact ⟨N, c, h1, h5, h3, hV⟩
end Go.Proofs.YtjannccgfmclhaaGreatDoor

namespace Go.Proofs.YtjannccgfmclhaaGreatDoor
open Go.RowKit

/-- An operation that runs to a value. -/
theorem wp_of_run {P : Program} {o : Oper} {a : Act} {w w' : World} {K : Act → World → Prop} {Q : Exit → Act → World → Prop} (v : Value) (h : (execOp a.eval o).run P w = .ok (.value v) w') (hk : K (a.put o.dst v) w') : o.wp P a w K Q := by
  unfold Oper.wp
  rw [h]
  exact hk

theorem listed_eq {listed : Array Bool} {n : Nat} {T : Nat → Bool} (hs : listed.size = n) (h : ∀ k, k < n → listed.getD k true = T k) : listed = ((List.range n).map T).toArray := by
  apply Array.ext
  · simp [hs]
  · intro i h1 h2
    have := h i (by omega)
    simp only [Array.getD, h1, dite_true] at this
    simp [← this]

/-- Three last operations, one behind the other; the middle one writes its slot alone. -/
theorem wpAny_three {P : Program} {ops : Array Oper} {Q : Exit → Act → World → Prop} {listed : Array Bool} {a a1 : Act} {w w1 w2 : World} (i j k : Nat) (oi oj ok : Oper) (hi : ops[i]? = some oi) (hj : ops[j]? = some oj) (hk : ops[k]? = some ok) (r1 : Region.ready .any ops listed = [i]) (r2 : Region.ready .any ops (listed.setIfInBounds i true) = [j])
    (r3 : Region.ready .any ops ((listed.setIfInBounds i true).setIfInBounds j true) = [k]) (r4 : Region.ready .any ops (((listed.setIfInBounds i true).setIfInBounds j true).setIfInBounds k true) = []) (gi : oi.guard = none) (gj : oj.guard = none) (gk : ok.guard = none)
    (h1 : ∀ K : Act → World → Prop, K a w1 → Oper.wp P oi a w K Q) (h2 : ∀ K : Act → World → Prop, K a1 w1 → Oper.wp P oj a w1 K Q) (h3 : ∀ K : Act → World → Prop, K a1 w2 → Oper.wp P ok a1 w1 K Q) (hq : Q .normal a1 w2) :
    ∀ fuel, 3 ≤ fuel → wpAny P .any ops Q fuel listed a w := by
  intro fuel hf
  obtain ⟨f, rfl⟩ : ∃ f, fuel = f + 3 := ⟨fuel - 3, by omega⟩
  have w1' : Region.wanted oi (yielded ops a.tmps) = true := by simp [Region.wanted, gi]
  have w2' : Region.wanted oj (yielded ops a.tmps) = true := by simp [Region.wanted, gj]
  have w3' : Region.wanted ok (yielded ops a1.tmps) = true := by simp [Region.wanted, gk]
  refine wpAny_all r1 (by simp) fun x hx => ?_
  obtain rfl : x = i := by simpa using hx
  unfold wpOp
  simp only [hi, w1', if_true]
  refine .inl (h1 _ (wpAny_all r2 (by simp) fun y hy => ?_))
  obtain rfl : y = j := by simpa using hy
  unfold wpOp
  simp only [hj, w2', if_true]
  refine .inl (h2 _ (wpAny_all r3 (by simp) fun z hz => ?_))
  obtain rfl : z = k := by simpa using hz
  unfold wpOp
  simp only [hk, w3', if_true]
  exact .inl (h3 _ (wpAny_done r4 hq f))

theorem wp_store_slice {P : Program} {o : Oper} {a : Act} {w : World} {K : Act → World → Prop} {Q : Exit → Act → World → Prop} (t : TypeId) (x y : Operand) (ho : o.op = .store t x y) (hd : o.dst = none) (ad : Addr) (p : Option Addr) (n c : Nat) (hx : a.eval x = .pointer (some ad)) (hy : a.eval y = .slice p n c)
    (hrun : (Instr.storeAt t (.pointer (some ad)) (.slice p n c)).run P w = .ok () (w.setCell ad (.slice p n c))) (h : K a (w.setCell ad (.slice p n c))) : o.wp P a w K Q := by
  unfold Oper.wp execOp
  simp only [ho, hx, hy, Sem.run_bind, hrun, Sem.run_pure, Result.andThen_ok]
  show K (a.put o.dst undef) _
  rw [hd]
  exact h

section
variable {news : List (Nat × Tmp)} {olds : List (Tmp × Value)} {it : Nat → Item} {w0 : World} {i : Nat} {o : Oper}

theorem run_fieldAddr (N off : Nat) {t : TypeId} {f : Nat} (hrun : ∀ w, (Instr.fieldAt t (.pointer (some ⟨N, 0, none⟩)) f).run Tryz.prog w = .ok (.pointer (some ⟨N, off, none⟩)) w) (x : Operand) (a : Act) (ho : o.op = .fieldAddr t x f) (hx : a.eval x = .pointer (some ⟨N, 0, none⟩)) (w : World) :
    (execOp a.eval o).run Tryz.prog w = .ok (.value (.pointer (some ⟨N, off, none⟩))) w := by
  unfold execOp
  simp only [ho, hx, Sem.run_bind, hrun, Sem.run_pure, Result.andThen_ok]

/-- The address of a field of a box that lay there. -/
theorem step_field {N off : Nat} (t : TypeId) (f : Nat) (x : Tmp) (hit : it i = .val none (isV (.pointer (some ⟨N, off, none⟩)))) (ho : o.op = .fieldAddr t (.tmp x) f) (hmem : (x, Value.pointer (some ⟨N, 0, none⟩)) ∈ olds)
    (hrun : ∀ w, (Instr.fieldAt t (.pointer (some ⟨N, 0, none⟩)) f).run Tryz.prog w = .ok (.pointer (some ⟨N, off, none⟩)) w) : StepOK Tryz.prog news olds it w0 i o := by
  unfold StepOK
  rw [hit]
  intro Q d u S w b K hp hdi hR hd hK
  exact wp_of_run _ (run_fieldAddr N off hrun _ b ho (hR.2 _ hmem) w) (hK.out _ (fun _ => False) _ (grown_of_below0 (Below.refl _ _) _) rfl (fun _ h => h.elim))

theorem step_move {v : Value} (x : Tmp) (hit : it i = .val none (isV v)) (ho : o.op = .move (.tmp x)) (hmem : (x, v) ∈ olds) : StepOK Tryz.prog news olds it w0 i o := by
  unfold StepOK
  rw [hit]
  intro Q d u S w b K hp hdi hR hd hK
  have hx := hR.2 _ hmem
  exact wp_of_run v (by unfold execOp; simp only [ho, hx]; rfl) (hK.out _ (fun _ => False) _ (grown_of_below0 (Below.refl _ _) _) rfl (fun _ h => h.elim))

/-- A cell of a block that lay there and that nobody writes. -/
theorem step_cell {a : Addr} {v : Value} (t : TypeId) (j : Nat) (x : Tmp) (hit : it i = .val none (isV v)) (ho : o.op = .load t (.tmp x)) (hx : (j, x) ∈ news) (hj : it j = .val none (isV (.pointer (some a)))) (hw : waitsB o j = true)
    (hc : w0.cell? a = some v) (hlt : a.block < w0.heap.size) (hN : ∀ j φ, it j ≠ .val (some a.block) φ) (hload : ∀ w, w.cell? a = some v → (Instr.loadAt t (.pointer (some a))).run Tryz.prog w = .ok v w) : StepOK Tryz.prog news olds it w0 i o := by
  unfold StepOK
  rw [hit]
  intro Q d u S w b K hp hdi hR hd hK
  obtain ⟨e1, h1, h2, h3⟩ := waits_of hw
  have ux := isV_of hp hj (by rw [← h3]; exact hd e1 h1 h2)
  have ex := (hR.1 _ hx).trans ux
  have hcw : w.cell? a = some v := (World.cell?_of_block (hp.block a.block hlt fun j φ hj => absurd hj (hN j φ))).trans hc
  exact wp_of_run v (by unfold execOp; simp only [ho, ex, Sem.run_bind, hload w hcw, Sem.run_pure, Result.andThen_ok]) (hK.out _ (fun _ => False) _ (grown_of_below0 (Below.refl _ _) _) rfl (fun _ h => h.elim))

/-- A slice of one element in a block of its own. -/
def OneSlice (cs : Array Value) (t : TypeId) : Value → (Nat → Prop) → World → Prop := fun v S w => ∃ N, v = .slice (some ⟨N, 0, none⟩) 1 1 ∧ S N ∧ w.heap[N]? = some (.cells cs t (0, 0))
theorem step_one {v : Value} {cs : Array Value} (T t : TypeId) (j : Nat) (x : Tmp) (hit : it i = .val none (OneSlice cs t)) (ho : o.op = .buildSlice T 1 #[(0, .tmp x)]) (hx : (j, x) ∈ news) (hj : it j = .val none (isV v)) (hw : waitsB o j = true)
    (hrun : ∀ w, (Instr.buildSlice T 1 #[(0, v)]).run Tryz.prog w = .ok (.slice (some ⟨w.heap.size, 0, none⟩) 1 1) (w.alloc (.cells cs t))) : StepOK Tryz.prog news olds it w0 i o := by
  unfold StepOK
  rw [hit]
  intro Q d u S w b K hp hdi hR hd hK
  obtain ⟨e1, h1, h2, h3⟩ := waits_of hw
  have ux := isV_of hp hj (by rw [← h3]; exact hd e1 h1 h2)
  have ex := (hR.1 _ hx).trans ux
  refine wp_of_run (w' := w.alloc (.cells cs t)) _ (by unfold execOp; simp only [ho, List.map_toArray, List.map_cons, List.map_nil, ex, Sem.run_bind, hrun w, Sem.run_pure, Result.andThen_ok]) (hK.out _ (fun b => b = w.heap.size) _ (World.grownBy_alloc _ _ _) ⟨w.heap.size, rfl, rfl, heap_alloc_new _ _⟩ (fun b h => ?_))
  subst h
  exact ⟨Or.inl (Nat.le_refl _), by simp⟩

theorem row_same {w w' : World} {base size n : Nat} {e : TypeId} {v : Value} {xs : List Value} (h : w.ownsRow base e size v n xs) (hs : ∀ g, v.ownBlock = some g → w'.heap[g]? = w.heap[g]?) : w'.ownsRow base e size v n xs := by
  refine ⟨h.1, ?_⟩
  rcases h.2 with hn | ⟨g, cap, cur, rfl, hb, hgg, rest⟩
  · exact .inl hn
  · exact .inr ⟨g, cap, cur, rfl, hb, (hs g rfl).trans hgg, rest⟩

/-- A row that a call owns, one longer. -/
def Longer (base : Nat) (e : TypeId) (size n : Nat) (xs : List Value) : Value → (Nat → Prop) → World → Prop := fun v S w => ∃ g cap, v = .slice (some ⟨g, 0, none⟩) n cap ∧ S g ∧ w.ownsRow base e size v n xs
theorem longer_stable {base size n : Nat} {e : TypeId} {xs : List Value} {v : Value} {S : Nat → Prop} {w w' : World} (h : Longer base e size n xs v S w) (hs : Same S w w') : Longer base e size n xs v S w' := by
  obtain ⟨g, cap, rfl, h1, h2⟩ := h
  exact ⟨g, cap, rfl, h1, row_same h2 (fun g' hg' => by cases hg'; exact hs g h1)⟩
theorem one_stable {cs : Array Value} {t : TypeId} {v : Value} {S : Nat → Prop} {w w' : World} (h : OneSlice cs t v S w) (hs : Same S w w') : OneSlice cs t v S w' := by
  obtain ⟨N, rfl, h1, h2⟩ := h
  exact ⟨N, rfl, h1, (hs N h1).trans h2⟩

/-- An append to a row that the call owns: the row is the only old block that it may write. -/
theorem step_app {kv : Value} {base size bytes n : Nat} {e : TypeId} {inf : TypeInfo} {z : Value} {xs : List Value} {cs : Array Value} (T : TypeId) (js jx : Nat) (s x : Tmp) (hit : it i = .val kv.ownBlock (Longer base e size (n + 1) (xs ++ cs.toList)))
    (ho : o.op = .call { callee := .builtin .append, args := #[.tmp s, .tmp x], argTypes := #[T, T] }) (hs : (js, s) ∈ news) (hx : (jx, x) ∈ news) (hjs : it js = .val none (isV kv)) (hjx : it jx = .val none (OneSlice cs e)) (hws : waitsB o js = true) (hwx : waitsB o jx = true)
    (hM : ∀ j φ b, it j = .val (some b) φ → kv.ownBlock = some b → j = i)
    (ht : Tryz.prog.underlying T = some (.slice e)) (hinf : Tryz.prog.info? e = some inf) (hz : inf.zero = some z) (hsize : inf.size = size) (hby : inf.bytes = bytes) (hzs : z.cells.size = size) (hsz : 0 < size)
    (hown : w0.ownsRow base e size kv n xs) (hcs : cs.toList.length = size) (hc1 : ∀ u ∈ cs.toList, u.oneCell' = true) (h63 : n + 1 ≤ maxLen) (hbytes : (n + 1) * bytes ≤ 140737488355328) (hbase : base ≤ w0.heap.size) : StepOK Tryz.prog news olds it w0 i o := by
  unfold StepOK
  rw [hit]
  intro Q d u S w b K hp hdi hR hd hK
  obtain ⟨e1, h1, h2, h3⟩ := waits_of hws
  obtain ⟨e2, h4, h5, h6⟩ := waits_of hwx
  have us := isV_of hp hjs (by rw [← h3]; exact hd e1 h1 h2)
  have es := (hR.1 _ hs).trans us
  have hdx : d jx = true := by rw [← h6]; exact hd e2 h4 h5
  obtain ⟨N, hN, _, hNb⟩ := (hp.val jx _ _ hjx hdx).1
  have ex := (hR.1 _ hx).trans hN
  have hown' : w.ownsRow base e size kv n xs := row_same hown fun g hg => hp.block g (hown.lt g hg).2 fun j φ hj => by rw [hM j φ g hj hg]; exact hdi
  refine wp_append_lies w (.tmp s) (.tmp x) T ho base e inf z size bytes ht hinf hz hsize hby hzs hsz kv n xs es hown' ⟨N, 0, none⟩ 1 1 cs.toList ex (by rw [Nat.one_mul]; exact hcs) (World.news_of_block hNb) hc1 (by omega) h63 hbytes (Nat.le_trans hbase hp.size) w.heap.size rfl ?_
  intro g cap w' hown1 hgrow hat hlt
  refine hK.out _ (fun b => b = g) w' hgrow ⟨g, cap, rfl, rfl, hown1⟩ (fun b hb => ?_)
  subst hb
  exact ⟨hat.elim (fun h => Or.inr h.symm) (fun h => Or.inl (by omega)), hlt⟩
end
end Go.Proofs.YtjannccgfmclhaaGreatDoor
