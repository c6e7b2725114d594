/- What a function answers: a value, an error, or nothing that is asked. impl.result of an error and of a bool, and what a door gives. What it means that a value of the package reads as a JSON value, entries in whatever order. Numbers as Values; fromGo and result of integers. A part of the proof. spec.Same of two readings of one right JSON value, and laws.told of an outcome that is as it should be. A part of the proof. -/
import Derived.Test.YtbdciilkapgfjaaGreatDoorTypes
import Derived.Test.YtbdciilkapgfjaaGreatDoorM9
namespace Go.Proofs.YtbdciilkapgfjaaGreatDoor
open Go.RowKit

/-- The block of a map that reads as an object, entry by entry. -/
theorem GR.mapAt {w : World} {S : Nat → Prop} {m : List (ByteArray × G)} {v : Value} (h : GR w S (.obj m) v) :
    ∃ b vs, v = .iface 43 (.map (some b)) ∧ S b ∧ vs.length = m.length ∧ MapAt w b ((m.map (·.1)).zip vs) ∧ ∀ i (_ : i < m.length) (h : i < vs.length), GR w S m[i].2 vs[i] := by
  rw [GR] at h
  obtain ⟨⟨b, es, c, rfl, h1, h2, h3, h4, h5, h6⟩, _, h8⟩ := h
  have hent : entsOf w (.iface 43 (.map (some b))) = es := by unfold entsOf blockOf; simp only [h2]
  rw [hent] at h8
  refine ⟨b, es.toList.map (·.val), rfl, h1, by simp [h4], ⟨es, c, h2, h3, ?_, ?_⟩, fun i hi hx => ?_⟩
  · apply List.ext_getElem
    · simp [h4]
    · intro i hi hj
      have hi1 : i < es.size := by simpa using hi
      have hi2 : i < m.length := by omega
      have := h6 i hi2 hi1
      simp [this]
  · rw [List.map_fst_zip (by simp [h4])]; exact h5
  · have hi1 : i < es.size := by omega
    obtain ⟨e, he, hg⟩ := h8 i (by simpa [G.ents] using hi)
    have : es[i] = e := by simpa [hi1] using he
    simp [this, G.ents] at hg ⊢
    exact hg

theorem zeroAny (w : World) : (zeroValue 20).run Tryz.prog w = .ok .nilIface w := by kernel_rfl

/-- Whether a key is among these. -/
def among (s : ByteArray) (l : List ByteArray) : Bool := l.any fun x => x.data == s.data
theorem among_iff (s : ByteArray) (l : List ByteArray) : among s l = true ↔ s ∈ l := by
  simp only [among, List.any_eq_true, beq_iff_eq]
  constructor
  · rintro ⟨x, hx, h⟩; cases x; cases s; cases h; exact hx
  · intro h; exact ⟨s, h, rfl⟩
theorem among_true {s : ByteArray} {l : List ByteArray} (h : s ∈ l) : among s l = true := (among_iff s l).2 h
theorem among_false {s : ByteArray} {l : List ByteArray} (h : s ∉ l) : among s l = false := by
  cases hh : among s l with
  | false => rfl
  | true => exact absurd ((among_iff s l).1 hh) h

/-- What a function answers; silent where none is asked. -/
inductive Out where
  | silent
  | raises
  | value (j : J)

/-- How a door says its outcome. -/
def Out.how : Out → Int | .silent => 2 | .raises => 1 | .value _ => 0

/-- An error value of the package. -/
def IsErr (v : Value) : Prop := ∃ t u, v = .iface t u ∧ ∀ w, (Instr.typeAssert (.iface t u) 20 47 true).run Tryz.prog w = .ok (.tuple #[.iface t u, .bool true]) w

/-- What a function of the package gives: an error, or a value. -/
def GOut (w : World) (o : Out) (e : Ending) (w' : World) : Prop :=
  match o with
  | .silent => True
  | .raises => ∃ v, e = .returned v ∧ IsErr v ∧ Below w.heap.size w w'
  | .value j => ∃ v, e = .returned v ∧ GR w' (New w.heap.size w') j.g v ∧ Below w.heap.size w w'

theorem j_num (h : Int) : (J.num h).g = if h % 2 = 0 then .int (h / 2) else .float (fb h) := by rw [J.g]
theorem j_bool (b : Bool) : (J.bool b).g = .bool b := by rw [J.g]
theorem j_str (s : ByteArray) : (J.str s).g = .str s := by rw [J.g]
theorem j_null : J.null.g = .null := by rw [J.g]
theorem out_bool (w w' : World) (b : Bool) (hb : Below w.heap.size w w') : GOut w (.value (.bool b)) (.returned (.iface 4 (.bool b))) w' :=
  ⟨_, rfl, GR.leaf (by rw [j_bool]; exact rfl) (by rw [j_bool]; rfl) (by rw [j_bool]; rfl), hb⟩

/-- What has answers. -/
def hasOut : J → J → Out
  | .obj m, .str s => .value (.bool (among s (m.map fun x : ByteArray × J => x.1)))
  | .arr l, .num h => if h % 2 = 0 then .value (.bool (decide (0 ≤ h / 2 ∧ h / 2 < l.length))) else .silent
  | .null, _ => .silent
  | _, _ => .raises

end Go.Proofs.YtbdciilkapgfjaaGreatDoor

namespace Go.Proofs.YtbdciilkapgfjaaGreatDoor
open Go.RowKit

def VC.nil : VC := ⟨0, 0, ByteArray.empty, none, 0, 0, none, 0, 0, none, 0, 0⟩

theorem fromGo_bool (b : Bool) (w : World) : Calls Tryz.prog 15 #[.iface 4 (.bool b)] w fun e w' => e = .returned (.tuple #[VC.val {VC.nil with k := if b then 2 else 1}, .bool true]) ∧ Below w.heap.size w w' := by
  cases b
  all_goals
    unfold VC.val VC.arr VC.nil
    go_enter Tryz.func15, Tryz.ntmps15
    go_wp2_with fail
    exact bodyPost_ret (v := .tuple #[.agg #[.int .i64 _, .int .i64 0, .string ByteArray.empty, .slice none 0 0, .slice none 0 0, .slice none 0 0], .bool true]) (by simp [results, Tryz.results15, go_sem]; rfl) rfl ⟨rfl, (Below.refl _ _).alloc (Nat.le_refl _) _⟩

/-- An impl.Res: a value and how it ended. -/
def resVal (c : VC) (e : Int) : Value := .agg #[.int .i64 c.k, .int .i64 c.h, .string c.s, .slice c.la c.ll c.lc, .slice c.ka c.kl c.kc, .slice c.va c.vl c.vc, .int .i64 e]

theorem result_err (v : Value) (w : World) (hv : IsErr v) : Calls Tryz.prog 9 #[v] w fun e w' => e = .returned (resVal VC.nil 1) ∧ Below w.heap.size w w' := by
  obtain ⟨t, u, rfl, hrun⟩ := hv
  unfold resVal VC.nil
  go_enter Tryz.func9, Tryz.ntmps9
  go_wp2_with fail
  exact bodyPost_ret (v := .agg #[.int .i64 0, .int .i64 0, .string ByteArray.empty, .slice none 0 0, .slice none 0 0, .slice none 0 0, .int .i64 1]) (by simp [results, Tryz.results9, go_sem]; rfl) rfl ⟨rfl, (Below.refl _ _).alloc (Nat.le_refl _) _⟩
/-- The cells of an impl.Res at block N. -/
def ResBox (w : World) (N : Nat) (c : VC) (e : Int) : Prop := w.heap[N]? = some (.cells #[.int .i64 c.k, .int .i64 c.h, .string c.s, .slice c.la c.ll c.lc, .slice c.ka c.kl c.kc, .slice c.va c.vl c.vc, .int .i64 e] 29 (0, 0))
section
variable {w : World} {N : Nat} {c : VC} {e : Int}
theorem ResBox.c0 (h : ResBox w N c e) : w.cell? ⟨N, 0, none⟩ = some (.int .i64 c.k) := by simp [World.cell?, show w.heap[N]? = _ from h]
theorem ResBox.c1 (h : ResBox w N c e) : w.cell? ⟨N, 1, none⟩ = some (.int .i64 c.h) := by simp [World.cell?, show w.heap[N]? = _ from h]
theorem ResBox.c2 (h : ResBox w N c e) : w.cell? ⟨N, 2, none⟩ = some (.string c.s) := by simp [World.cell?, show w.heap[N]? = _ from h]
theorem ResBox.c3 (h : ResBox w N c e) : w.cell? ⟨N, 3, none⟩ = some (.slice c.la c.ll c.lc) := by simp [World.cell?, show w.heap[N]? = _ from h]
theorem ResBox.c4 (h : ResBox w N c e) : w.cell? ⟨N, 4, none⟩ = some (.slice c.ka c.kl c.kc) := by simp [World.cell?, show w.heap[N]? = _ from h]
theorem ResBox.c5 (h : ResBox w N c e) : w.cell? ⟨N, 5, none⟩ = some (.slice c.va c.vl c.vc) := by simp [World.cell?, show w.heap[N]? = _ from h]
theorem ResBox.c6 (h : ResBox w N c e) : w.cell? ⟨N, 6, none⟩ = some (.int .i64 e) := by simp [World.cell?, show w.heap[N]? = _ from h]
theorem ResBox.fr (h : ResBox w N c e) (o : Nat) : w.frozen? ⟨N, o, none⟩ = false := by simp [World.frozen?, show w.heap[N]? = _ from h]
theorem ResBox.lt (h : ResBox w N c e) : N < w.heap.size := by
  rcases Nat.lt_or_ge N w.heap.size with h' | h'
  · exact h'
  · rw [ResBox, Array.getElem?_eq_none h'] at h; cases h
theorem ResBox.below {w' : World} {B : Nat} (h : ResBox w N c e) (hg : Below B w w') (hlt : N < B) : ResBox w' N c e := (hg.block N hlt).trans h
end
theorem resbox_alloc (w : World) (c : VC) (e : Int) : ResBox (w.alloc (.cells #[.int .i64 c.k, .int .i64 c.h, .string c.s, .slice c.la c.ll c.lc, .slice c.ka c.kl c.kc, .slice c.va c.vl c.vc, .int .i64 e] 29)) w.heap.size c e := heap_alloc_at _ _

/-- The cells of a Res, stored one by one. -/
def resStored (w : World) (N : Nat) (c : VC) (e : Int) : World :=
  ((((((w.setCell ⟨N, 0, none⟩ (.int .i64 c.k)).setCell ⟨N, 1, none⟩ (.int .i64 c.h)).setCell ⟨N, 2, none⟩ (.string c.s)).setCell ⟨N, 3, none⟩ (.slice c.la c.ll c.lc)).setCell ⟨N, 4, none⟩ (.slice c.ka c.kl c.kc)).setCell ⟨N, 5, none⟩ (.slice c.va c.vl c.vc)).setCell ⟨N, 6, none⟩ (.int .i64 e)
theorem resStored_below {B N : Nat} {a w : World} {c : VC} {e : Int} (h : Below B a w) (hB : B ≤ N) : Below B a (resStored w N c e) :=
  ((((((h.setCell hB _).setCell hB _).setCell hB _).setCell hB _).setCell hB _).setCell hB _).setCell hB _
theorem resStored_block {N : Nat} {w : World} {c : VC} {e : Int} {b : Nat} (hb : b ≠ N) : (resStored w N c e).heap[b]? = w.heap[b]? := by
  unfold resStored
  rw [Below.heap_setCell _ _ _ _ hb, Below.heap_setCell _ _ _ _ hb, Below.heap_setCell _ _ _ _ hb, Below.heap_setCell _ _ _ _ hb, Below.heap_setCell _ _ _ _ hb, Below.heap_setCell _ _ _ _ hb, Below.heap_setCell _ _ _ _ hb]
theorem resStored_size {N : Nat} {w : World} {c : VC} {e : Int} : (resStored w N c e).heap.size = w.heap.size := by simp [resStored]

theorem result_bool (b : Bool) (w : World) : Calls Tryz.prog 9 #[.iface 4 (.bool b)] w fun e w' => e = .returned (resVal {VC.nil with k := if b then 2 else 1} 0) ∧ Below w.heap.size w w' := by
  have F := fromGo_bool b
  have FF := Lib.hid F
  have RB := Lib.hid (resbox_alloc w VC.nil 0)
  clear F
  cases b
  all_goals
    unfold resVal VC.nil
    unfold VC.val VC.arr VC.nil at FF
    unfold VC.nil at RB
    simp only [if_false, Bool.false_eq_true] at FF ⊢
    go_enter Tryz.func9, Tryz.ntmps9
    go_wp2_with fail
    refine (FF.out _).mono ?_
    rintro e w' ⟨rfl, hb⟩
    have rb := RB.out.below hb (by simp)
    have q0 := rb.c0; have q1 := rb.c1; have q2 := rb.c2; have q3 := rb.c3; have q4 := rb.c4; have q5 := rb.c5; have q6 := rb.c6; have qf := rb.fr
    have lt := rb.lt
    have HB := Lib.hid hb
    clear rb hb
    go_wp2_with fail
    refine bodyPost_ret (v := .agg #[.int .i64 _, .int .i64 0, .string ByteArray.empty, .slice none 0 0, .slice none 0 0, .slice none 0 0, .int .i64 0]) (by simp [results, Tryz.results9, go_sem, q0, q1, q2, q3, q4, q5, q6, lt]) rfl ⟨rfl, ?_⟩
    have hb0 : Below w.heap.size w w' := ((Below.refl w.heap.size w).alloc (Nat.le_refl _) _).trans (HB.out.mono (by simp))
    exact (((((((hb0.setCell (Nat.le_refl _) _).setCell (Nat.le_refl _) _).setCell (Nat.le_refl _) _).setCell (Nat.le_refl _) _).setCell (Nat.le_refl _) _).setCell (Nat.le_refl _) _).setCell (Nat.le_refl _) _).alloc (by simp only [World.size_setCell]; omega) _
/-- The value of a bool. -/
theorem VR.bool (w : World) (S : Nat → Prop) (b : Bool) : VR w S (.bool b) {VC.nil with k := if b then 2 else 1} := by
  rw [VR]
  refine ⟨⟨by cases b <;> rfl, rfl, rfl, rfl, rfl, rfl, Nat.le_refl _, Nat.le_refl _, Nat.le_refl _, fun _ => rfl, fun _ => rfl, fun _ => rfl⟩, fun i hi => ?_, fun i hi => ?_, fun i hi => ?_⟩
  · simp [J.list] at hi
  · simp [J.ents] at hi
  · simp [J.ents] at hi

/-- What a door of the harness gives. -/
def DoorOut (w : World) (o : Out) (e : Ending) (w' : World) : Prop :=
  match o with
  | .silent => True
  | .raises => ∃ c, e = .returned (resVal c 1) ∧ Below w.heap.size w w'
  | .value j => ∃ c, e = .returned (resVal c 0) ∧ VR w' (New w.heap.size w') j c ∧ Below w.heap.size w w'

theorem result_has (o : Out) (ho : o = .raises ∨ ∃ b, o = .value (.bool b)) {w w1 : World} {e : Ending} (h : GOut w o e w1) :
    ∃ v, e = .returned v ∧ Below w.heap.size w w1 ∧ Calls Tryz.prog 9 #[v] w1 fun e w' => ∃ c, e = .returned (resVal c o.how) ∧ (∀ j, o = .value j → VR w' (New w1.heap.size w') j c) ∧ Below w1.heap.size w1 w' := by
  rcases ho with rfl | ⟨b, rfl⟩
  · obtain ⟨v, rfl, hv, hb⟩ := h
    refine ⟨_, rfl, hb, (result_err v w1 hv).mono ?_⟩
    rintro e w' ⟨rfl, hb1⟩
    exact ⟨_, rfl, (fun j hj => by cases hj), hb1⟩
  · obtain ⟨v, rfl, hG, hb⟩ := h
    rw [j_bool] at hG
    have := hG.head; cases this
    refine ⟨_, rfl, hb, (result_bool b w1).mono ?_⟩
    rintro e w' ⟨rfl, hb1⟩
    exact ⟨_, rfl, (fun j hj => by cases hj; exact VR.bool _ _ _), hb1⟩

end Go.Proofs.YtbdciilkapgfjaaGreatDoor

namespace Go.Proofs.YtbdciilkapgfjaaGreatDoor
open Go.RowKit

/-- The interface value v is j itself, but for what it leads to. -/
def JHead (j : J) (v : Value) : Prop :=
  match j with
  | .null => v = .nilIface
  | .bool b => v = .iface 4 (.bool b)
  | .num h => v = if h % 2 = 0 then .iface 3 (.int .i64 (h / 2)) else .iface 39 (.float .f64 (fb h))
  | .str s => v = .iface 9 (.string s)
  | .arr l => ∃ a cap, v = .iface 40 (.slice a l.length cap)
  | .obj _ => ∃ b, v = .iface 43 (.map (some b))

/-- v, a value of the package, reads as j in w, an object's entries in whatever order; all that it leads to lies in blocks of S. -/
def JR (w : World) (S : Nat → Prop) (j : J) (v : Value) : Prop :=
  JHead j v ∧ (∀ i (_ : i < j.list.length), ∃ b o x, sliceOf v = some ⟨b, o, none⟩ ∧ S b ∧ w.cell? ⟨b, o + i, none⟩ = some x ∧ w.frozen? ⟨b, o + i, none⟩ = false ∧ JR w S j.list[i] x) ∧
    ∃ mv : List (ByteArray × Value), (∀ m, j = .obj m → S (blockOf v) ∧ MapAt w (blockOf v) mv ∧ (mv.map (·.1)).Perm (m.map (·.1))) ∧ ∀ i (_ : i < j.ents.length), ∃ x, (j.ents[i].1, x) ∈ mv ∧ JR w S j.ents[i].2 x
termination_by SizeOf.sizeOf j
decreasing_by
  · exact sizeOf_list j ‹_›
  · exact sizeOf_ents j ‹_›

theorem JR.head {w : World} {S : Nat → Prop} {j : J} {v : Value} (h : JR w S j v) : JHead j v := by rw [JR] at h; exact h.1

theorem JR.go {w w' : World} {S S' : Nat → Prop} (hb : Same S w w') (hS : ∀ b, S b → S' b) {j : J} {v : Value} (h : JR w S j v) : JR w' S' j v := by
  rw [JR] at h ⊢
  obtain ⟨h1, h2, mv, h3, h4⟩ := h
  refine ⟨h1, fun i hi => ?_, mv, fun m hm => ?_, fun i hi => ?_⟩
  · obtain ⟨b, o, x, e1, e2, e3, ef, e4⟩ := h2 i hi
    exact ⟨b, o, x, e1, hS b e2, (hb.cell e2).trans e3, (World.frozen?_of_block (a := ⟨b, o + i, none⟩) (hb b e2)).trans ef, JR.go hb hS e4⟩
  · obtain ⟨e1, e2, e3⟩ := h3 m hm
    exact ⟨hS _ e1, e2.same (hb _ e1), e3⟩
  · obtain ⟨x, e1, e2⟩ := h4 i hi
    exact ⟨x, e1, JR.go hb hS e2⟩
termination_by SizeOf.sizeOf j
decreasing_by
  · exact sizeOf_list j hi
  · exact sizeOf_ents j hi
theorem JR.mono {w : World} {S S' : Nat → Prop} (hS : ∀ b, S b → S' b) {j : J} {v : Value} (h : JR w S j v) : JR w S' j v := h.go (Same.refl S w) hS

/-- Nil, or a type and a value. -/
theorem JR.form {w : World} {S : Nat → Prop} {j : J} {v : Value} (h : JR w S j v) : v = .nilIface ∨ ∃ t u, v = .iface t u := by
  have h := h.head
  cases j with
  | null => exact Or.inl h
  | bool b => exact Or.inr ⟨_, _, h⟩
  | num n => simp only [JHead] at h; split at h <;> exact Or.inr ⟨_, _, h⟩
  | str s => exact Or.inr ⟨_, _, h⟩
  | arr l => obtain ⟨a, cap, h⟩ := h; exact Or.inr ⟨_, _, h⟩
  | obj m => obtain ⟨b, h⟩ := h; exact Or.inr ⟨_, _, h⟩

theorem JR.leaf {w : World} {S : Nat → Prop} {j : J} {v : Value} (h : JHead j v) (hl : j.list = []) (he : ∀ m, j ≠ .obj m) : JR w S j v := by
  rw [JR]
  refine ⟨h, fun i hi => absurd hi (by simp [hl]), [], fun m hm => absurd hm (he m), fun i hi => ?_⟩
  cases j with
  | obj m => exact absurd rfl (he m)
  | _ => simp [J.ents] at hi

/-- What reads as a plain Go value reads so, too. -/
theorem GR.jr {w : World} {S : Nat → Prop} : ∀ (n : Nat) {j : J} {v : Value}, SizeOf.sizeOf j ≤ n → GR w S j.g v → JR w S j v
  | 0, j, v, hn, _ => by cases j <;> simp at hn
  | n + 1, j, v, hn, h => by
    cases j with
    | null => exact .leaf (by have := h.head; rw [J.g] at this; exact this) rfl (fun m hm => by cases hm)
    | bool b => exact .leaf (by have := h.head; rw [J.g] at this; exact this) rfl (fun m hm => by cases hm)
    | num x =>
      refine .leaf ?_ rfl (fun m hm => by cases hm)
      have := h.head
      rw [j_num] at this
      simp only [JHead]
      split
      · rename_i he; rw [if_pos he] at this; exact this
      · rename_i he; rw [if_neg he] at this; exact this
    | str s => exact .leaf (by have := h.head; rw [J.g] at this; exact this) rfl (fun m hm => by cases hm)
    | arr l =>
      rw [J.g_arr] at h
      rw [GR] at h
      rw [JR]
      obtain ⟨h1, h2, _⟩ := h
      refine ⟨by obtain ⟨a, e⟩ := h1; exact ⟨a, l.length, by simpa using e⟩, fun i hi => ?_, [], fun m hm => (by cases hm), fun i hi => absurd hi (by simp [J.ents])⟩
      have hi' : i < l.length := hi
      obtain ⟨b, o, x, e1, e2, e3, ef, e4⟩ := h2 i (by simpa [G.list] using hi')
      refine ⟨b, o, x, e1, e2, e3, ef, GR.jr n ?_ (by simpa [G.list, J.list] using e4)⟩
      have := sizeOf_list (.arr l) (i := i) hi'
      show SizeOf.sizeOf l[i] ≤ n
      simp only [J.list] at this
      omega
    | obj m =>
      rw [J.g_obj] at h
      obtain ⟨b, vs, rfl, hS, hlen, hM, hG⟩ := h.mapAt
      rw [JR]
      have e1 : (m.map fun x => (x.1, x.2.g)).map (·.1) = m.map (·.1) := by rw [List.map_map]; rfl
      have hlen' : vs.length = m.length := by simpa using hlen
      refine ⟨⟨b, rfl⟩, fun i hi => absurd hi (by simp [J.list]), ((m.map fun x => (x.1, x.2.g)).map (·.1)).zip vs, fun m' hm' => ?_, fun i hi => ?_⟩
      · cases hm'
        refine ⟨hS, hM, ?_⟩
        rw [List.map_fst_zip (by simp [hlen]), e1]
      · have hi' : i < m.length := hi
        refine ⟨vs[i]'(by omega), ?_, GR.jr n ?_ (by have := hG i (by simpa using hi') (by omega); simpa [J.ents] using this)⟩
        · have hz : i < (((m.map fun x => (x.1, x.2.g)).map (·.1)).zip vs).length := by simp [hlen']; exact hi'
          have := List.getElem_mem hz
          simpa [J.ents] using this
        · have := sizeOf_ents (.obj m) (i := i) hi'
          simp only [J.ents] at this ⊢
          omega

/-- An object: its map's block and entries. -/
theorem JR.obj {w : World} {S : Nat → Prop} {m : List (ByteArray × J)} {v : Value} (h : JR w S (.obj m) v) :
    ∃ b mv, v = .iface 43 (.map (some b)) ∧ S b ∧ MapAt w b mv ∧ (mv.map (·.1)).Perm (m.map (·.1)) ∧ ∀ i (_ : i < m.length), ∃ x, (m[i].1, x) ∈ mv ∧ JR w S m[i].2 x := by
  rw [JR] at h
  obtain ⟨⟨b, rfl⟩, _, mv, h3, h4⟩ := h
  obtain ⟨e1, e2, e3⟩ := h3 m rfl
  exact ⟨b, mv, rfl, e1, e2, e3, h4⟩
theorem JR.of_obj {w : World} {S : Nat → Prop} {m : List (ByteArray × J)} {b : Nat} {mv : List (ByteArray × Value)} (hS : S b) (hM : MapAt w b mv) (hp : (mv.map (·.1)).Perm (m.map (·.1))) (he : ∀ i (_ : i < m.length), ∃ x, (m[i].1, x) ∈ mv ∧ JR w S m[i].2 x) :
    JR w S (.obj m) (.iface 43 (.map (some b))) := by
  rw [JR]
  exact ⟨⟨b, rfl⟩, fun i hi => absurd hi (by simp [J.list]), mv, fun m' hm' => (by cases hm'; exact ⟨hS, hM, hp⟩), he⟩
/-- An array: its elements. -/
theorem JR.arr {w : World} {S : Nat → Prop} {l : List J} {v : Value} (h : JR w S (.arr l) v) :
    ∃ a cap, v = .iface 40 (.slice a l.length cap) ∧ ∀ i (_ : i < l.length), ∃ b o x, a = some ⟨b, o, none⟩ ∧ S b ∧ w.cell? ⟨b, o + i, none⟩ = some x ∧ JR w S l[i] x := by
  rw [JR] at h
  obtain ⟨⟨a, cap, rfl⟩, h2, _⟩ := h
  exact ⟨a, cap, rfl, fun i hi => by obtain ⟨b, o, x, e1, e2, e3, _, e4⟩ := h2 i hi; exact ⟨b, o, x, e1, e2, e3, e4⟩⟩
/-- An array: its elements, and that their cells may be written. -/
theorem JR.arrU {w : World} {S : Nat → Prop} {l : List J} {v : Value} (h : JR w S (.arr l) v) :
    ∃ a cap, v = .iface 40 (.slice a l.length cap) ∧ ∀ i (_ : i < l.length), ∃ b o x, a = some ⟨b, o, none⟩ ∧ S b ∧ w.cell? ⟨b, o + i, none⟩ = some x ∧ w.frozen? ⟨b, o + i, none⟩ = false ∧ JR w S l[i] x := by
  rw [JR] at h
  obtain ⟨⟨a, cap, rfl⟩, h2, _⟩ := h
  exact ⟨a, cap, rfl, h2⟩
theorem JR.of_arr {w : World} {S : Nat → Prop} {l : List J} {a : Option Addr} {cap : Nat} (he : ∀ i (_ : i < l.length), ∃ b o x, a = some ⟨b, o, none⟩ ∧ S b ∧ w.cell? ⟨b, o + i, none⟩ = some x ∧ w.frozen? ⟨b, o + i, none⟩ = false ∧ JR w S l[i] x) :
    JR w S (.arr l) (.iface 40 (.slice a l.length cap)) := by
  rw [JR]
  exact ⟨⟨a, cap, rfl⟩, he, [], fun m hm => (by cases hm), fun i hi => absurd hi (by simp [J.ents])⟩
end Go.Proofs.YtbdciilkapgfjaaGreatDoor

namespace Go.Proofs.YtbdciilkapgfjaaGreatDoor
open Go.RowKit

/-- The cells of a number that is twice h/2. -/
def numVC (h : Int) : VC := {VC.nil with k := 3, h := h}

theorem VR.num (w : World) (S : Nat → Prop) (h : Int) : VR w S (.num h) (numVC h) := by
  rw [VR]
  refine ⟨⟨rfl, rfl, rfl, rfl, rfl, rfl, Nat.le_refl _, Nat.le_refl _, Nat.le_refl _, fun _ => rfl, fun _ => rfl, fun _ => rfl⟩, fun i hi => ?_, fun i hi => ?_, fun i hi => ?_⟩
  · simp [J.list] at hi
  · simp [J.ents] at hi
  · simp [J.ents] at hi

theorem fromGo_int (n : Int) (w : World) (h1 : -4611686018427387904 ≤ n) (h2 : n ≤ 4611686018427387903) :
    Calls Tryz.prog 15 #[.iface 3 (.int .i64 n)] w fun e w' => e = .returned (.tuple #[VC.val (numVC (2 * n)), .bool true]) ∧ Below w.heap.size w w' := by
  unfold numVC VC.val VC.arr VC.nil
  go_enter Tryz.func15, Tryz.ntmps15
  go_wp2_with fail
  all_goals
    exact bodyPost_ret (v := .tuple #[.agg #[.int .i64 3, .int .i64 (2 * n), .string ByteArray.empty, .slice none 0 0, .slice none 0 0, .slice none 0 0], .bool true]) (by simp [results, Tryz.results15, go_sem]; rfl) rfl ⟨rfl, (Below.refl _ _).alloc (Nat.le_refl _) _⟩

theorem result_int (n : Int) (w : World) (h1 : -4611686018427387904 ≤ n) (h2 : n ≤ 4611686018427387903) :
    Calls Tryz.prog 9 #[.iface 3 (.int .i64 n)] w fun e w' => e = .returned (resVal (numVC (2 * n)) 0) ∧ Below w.heap.size w w' := by
  have F := fun w => fromGo_int n w h1 h2
  have FF := Lib.hid F
  have RB := Lib.hid (resbox_alloc w VC.nil 0)
  clear F h1 h2
  unfold numVC at FF ⊢
  unfold resVal VC.nil
  unfold VC.val VC.arr VC.nil at FF
  unfold VC.nil at RB
  go_enter Tryz.func9, Tryz.ntmps9
  go_wp2_with fail
  refine (FF.out _).mono ?_
  rintro e w' ⟨rfl, hb⟩
  have rb := RB.out.below hb (by simp)
  have q0 := rb.c0; have q1 := rb.c1; have q2 := rb.c2; have q3 := rb.c3; have q4 := rb.c4; have q5 := rb.c5; have q6 := rb.c6; have qf := rb.fr
  have lt := rb.lt
  have HB := Lib.hid hb
  clear rb hb
  go_wp2_with fail
  refine bodyPost_ret (v := .agg #[.int .i64 3, .int .i64 (2 * n), .string ByteArray.empty, .slice none 0 0, .slice none 0 0, .slice none 0 0, .int .i64 0]) (by simp [results, Tryz.results9, go_sem, q0, q1, q2, q3, q4, q5, q6, lt]) rfl ⟨rfl, ?_⟩
  have hb0 : Below w.heap.size w w' := ((Below.refl w.heap.size w).alloc (Nat.le_refl _) _).trans (HB.out.mono (by simp))
  exact (((((((hb0.setCell (Nat.le_refl _) _).setCell (Nat.le_refl _) _).setCell (Nat.le_refl _) _).setCell (Nat.le_refl _) _).setCell (Nat.le_refl _) _).setCell (Nat.le_refl _) _).setCell (Nat.le_refl _) _).alloc (by simp only [World.size_setCell]; omega) _

end Go.Proofs.YtbdciilkapgfjaaGreatDoor

namespace Go.Proofs.YtbdciilkapgfjaaGreatDoor
open Go.RowKit

/-- A value that is the same is told so. -/
def TruePost (w : World) (e : Ending) (w' : World) : Prop := e = .returned (.bool true) ∧ Below w.heap.size w w'

theorem Same_refl (j : J) (a c : VC) (w : World) (S : Nat → Prop) (hj : JOK j) (ha : VR w S j a) (hc : VR w S j c) (hS : ∀ b, S b → b < w.heap.size) :
    Calls Tryz.prog 12 #[a.val, c.val] w (TruePost w) := by
  have hb : Below w.heap.size w ((w.alloc (.cells a.arr 26)).alloc (.cells c.arr 26)) := ((Below.refl _ _).alloc (Nat.le_refl _) _).alloc (by simp) _
  have H := Lib.hid (Cmp_refl (SizeOf.sizeOf j) j a c ((w.alloc (.cells a.arr 26)).alloc (.cells c.arr 26)) S (Nat.le_refl _) hj (ha.go (fun b h => hb.block b (hS b h)) (fun _ h => h)) (hc.go (fun b h => hb.block b (hS b h)) (fun _ h => h)) (fun b h => by have := hS b h; simp; omega))
  have HB := Lib.hid hb
  clear hb ha hc hj
  obtain ⟨k0, h0, s0, la, ll, lc, ka, kl, kc, va, vl, vc⟩ := a
  obtain ⟨k0', h0', s0', la', ll', lc', ka', kl', kc', va', vl', vc'⟩ := c
  unfold VC.val VC.arr at *
  go_enter Tryz.func12, Tryz.ntmps12
  go_wp2_with fail
  refine H.out.mono ?_
  rintro e w1 ⟨rfl, hb1⟩
  have HB1 := Lib.hid (HB.out.trans (hb1.mono HB.out.size))
  clear hb1
  go_wp2_with fail
  go_ret
  exact ⟨rfl, HB1.out⟩
end Go.Proofs.YtbdciilkapgfjaaGreatDoor

namespace Go.Proofs.YtbdciilkapgfjaaGreatDoor
open Go.RowKit

theorem told_raises (c o : VC) (w : World) : Calls Tryz.prog 7 #[resVal c 1, o.val, .int .i64 1] w (TruePost w) := by
  obtain ⟨k0, h0, s0, la, ll, lc, ka, kl, kc, va, vl, vc⟩ := c
  obtain ⟨k0', h0', s0', la', ll', lc', ka', kl', kc', va', vl', vc'⟩ := o
  unfold VC.val VC.arr resVal
  go_enter Tryz.func7, Tryz.ntmps7
  go_wp2_with fail
  go_ret
  exact ⟨rfl, ((Below.refl _ _).alloc (Nat.le_refl _) _).alloc (by simp) _⟩

theorem told_silent (c o : VC) (e : Int) (w : World) : Calls Tryz.prog 7 #[resVal c e, o.val, .int .i64 2] w (TruePost w) := by
  obtain ⟨k0, h0, s0, la, ll, lc, ka, kl, kc, va, vl, vc⟩ := c
  obtain ⟨k0', h0', s0', la', ll', lc', ka', kl', kc', va', vl', vc'⟩ := o
  unfold VC.val VC.arr resVal
  go_enter Tryz.func7, Tryz.ntmps7
  go_wp2_with fail
  go_ret
  exact ⟨rfl, ((Below.refl _ _).alloc (Nat.le_refl _) _).alloc (by simp) _⟩

theorem told_value (j : J) (a c : VC) (w : World) (S : Nat → Prop) (hj : JOK j) (ha : VR w S j a) (hc : VR w S j c) (hS : ∀ b, S b → b < w.heap.size) :
    Calls Tryz.prog 7 #[resVal a 0, c.val, .int .i64 0] w (TruePost w) := by
  have hb : ∀ o o', Below w.heap.size w ((w.alloc o).alloc o') := fun o o' => ((Below.refl _ _).alloc (Nat.le_refl _) _).alloc (by simp) _
  have H := Lib.hid fun o o' => (Same_refl j a c ((w.alloc o).alloc o') S hj (ha.go (fun b h => (hb o o').block b (hS b h)) (fun _ h => h)) (hc.go (fun b h => (hb o o').block b (hS b h)) (fun _ h => h)) (fun b h => by have := hS b h; simp; omega))
  have HB := Lib.hid hb
  clear hb ha hc hj
  obtain ⟨k0, h0, s0, la, ll, lc, ka, kl, kc, va, vl, vc⟩ := a
  obtain ⟨k0', h0', s0', la', ll', lc', ka', kl', kc', va', vl', vc'⟩ := c
  unfold resVal
  unfold VC.val VC.arr at *
  go_enter Tryz.func7, Tryz.ntmps7
  go_wp2_with fail
  refine (H.out _ _).mono ?_
  rintro e w1 ⟨rfl, hb1⟩
  have HB1 := Lib.hid ((HB.out _ _).trans (hb1.mono (HB.out _ _).size))
  clear hb1
  go_wp2_with fail
  go_ret
  exact ⟨rfl, HB1.out⟩
end Go.Proofs.YtbdciilkapgfjaaGreatDoor

namespace Go.Proofs.YtbdciilkapgfjaaGreatDoor
open Go.RowKit

theorem given_value (j : J) (a c : VC) (w : World) (S : Nat → Prop) (hj : JOK j) (ha : VR w S j a) (hc : VR w S j c) (hS : ∀ b, S b → b < w.heap.size) :
    Calls Tryz.prog 4 #[resVal a 0, c.val] w (TruePost w) := by
  have hb : ∀ o o', Below w.heap.size w ((w.alloc o).alloc o') := fun o o' => ((Below.refl _ _).alloc (Nat.le_refl _) _).alloc (by simp) _
  have H := Lib.hid fun o o' => (told_value j a c ((w.alloc o).alloc o') S hj (ha.go (fun b h => (hb o o').block b (hS b h)) (fun _ h => h)) (hc.go (fun b h => (hb o o').block b (hS b h)) (fun _ h => h)) (fun b h => by have := hS b h; simp; omega))
  have HB := Lib.hid hb
  clear hb ha hc hj
  obtain ⟨k0, h0, s0, la, ll, lc, ka, kl, kc, va, vl, vc⟩ := a
  obtain ⟨k0', h0', s0', la', ll', lc', ka', kl', kc', va', vl', vc'⟩ := c
  unfold resVal at *
  unfold VC.val VC.arr at *
  go_enter Tryz.func4, Tryz.ntmps4
  go_wp2_with fail
  refine (H.out _ _).mono ?_
  rintro e w1 ⟨rfl, hb1⟩
  have HB1 := Lib.hid ((HB.out _ _).trans (hb1.mono (HB.out _ _).size))
  clear hb1
  go_wp2_with fail
  go_ret
  exact ⟨rfl, HB1.out⟩
end Go.Proofs.YtbdciilkapgfjaaGreatDoor
