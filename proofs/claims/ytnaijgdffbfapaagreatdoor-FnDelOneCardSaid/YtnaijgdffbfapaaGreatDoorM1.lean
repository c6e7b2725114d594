/- What it means that the six cells of an impl.Value read as a JSON value, kept where the blocks that it leads to are kept. What it means that the cells of an impl.Value read as any tree at all, right or not, each length at most 2^47 - 4096. A part of the proof. -/
import Derived.WalkKit
import Derived.Below
namespace Go.Proofs.YtnaijgdffbfapaaGreatDoor
open Go.RowKit

/-- A JSON value of plain data: 'num' bears twice the number. -/
inductive J where
  | null
  | bool (b : Bool)
  | num (h : Int)
  | str (s : ByteArray)
  | arr (l : List J)
  | obj (m : List (ByteArray × J))

/-- The six cells of an impl.Value. -/
structure VC where
  k : Int
  h : Int
  s : ByteArray
  la : Option Addr
  ll : Nat
  lc : Nat
  ka : Option Addr
  kl : Nat
  kc : Nat
  va : Option Addr
  vl : Nat
  vc : Nat

def VC.arr (c : VC) : Array Value := #[.int .i64 c.k, .int .i64 c.h, .string c.s, .slice c.la c.ll c.lc, .slice c.ka c.kl c.kc, .slice c.va c.vl c.vc]
def VC.val (c : VC) : Value := .agg c.arr

/-- Six cells in a row. -/
structure At6 (w : World) (b o : Nat) (c : VC) : Prop where
  c0 : w.cell? ⟨b, o, none⟩ = some (.int .i64 c.k)
  c1 : w.cell? ⟨b, o + 1, none⟩ = some (.int .i64 c.h)
  c2 : w.cell? ⟨b, o + 2, none⟩ = some (.string c.s)
  c3 : w.cell? ⟨b, o + 3, none⟩ = some (.slice c.la c.ll c.lc)
  c4 : w.cell? ⟨b, o + 4, none⟩ = some (.slice c.ka c.kl c.kc)
  c5 : w.cell? ⟨b, o + 5, none⟩ = some (.slice c.va c.vl c.vc)

def J.kind : J → Int
  | .null => 0
  | .bool b => if b then 2 else 1
  | .num _ => 3
  | .str _ => 4
  | .arr _ => 5
  | .obj _ => 6
def J.half : J → Int | .num h => h | _ => 0
def J.text : J → ByteArray | .str s => s | _ => ByteArray.empty
def J.list : J → List J | .arr l => l | _ => []
def J.ents : J → List (ByteArray × J) | .obj m => m | _ => []

/-- The plain cells of c are those of j. -/
structure Head (j : J) (c : VC) : Prop where
  k : c.k = j.kind
  h : c.h = j.half
  s : c.s = j.text
  ll : c.ll = j.list.length
  kl : c.kl = j.ents.length
  vl : c.vl = j.ents.length
  lc : c.ll ≤ c.lc
  kc : c.kl ≤ c.kc
  vc : c.vl ≤ c.vc
  ln : c.la = none → c.lc = 0
  kn : c.ka = none → c.kc = 0
  vn : c.va = none → c.vc = 0

theorem sizeOf_list (j : J) {i : Nat} (h : i < j.list.length) : SizeOf.sizeOf j.list[i] < SizeOf.sizeOf j := by
  have := List.sizeOf_lt_of_mem (List.getElem_mem (l := j.list) h)
  cases j with
  | arr l => simp [J.list] at this ⊢; omega
  | _ => simp [J.list] at h
theorem sizeOf_ents (j : J) {i : Nat} (h : i < j.ents.length) : SizeOf.sizeOf j.ents[i].2 < SizeOf.sizeOf j := by
  have h1 := List.sizeOf_lt_of_mem (List.getElem_mem (l := j.ents) h)
  have h2 : SizeOf.sizeOf j.ents[i].2 < SizeOf.sizeOf j.ents[i] := by cases j.ents[i]; simp; omega
  cases j with
  | obj m => simp [J.ents] at h1 h2 ⊢; omega
  | _ => simp [J.ents] at h

/-- c reads as j in w; all that it leads to lies in blocks of S. -/
def VR (w : World) (S : Nat → Prop) (j : J) (c : VC) : Prop :=
  Head j c ∧ (∀ i (_ : i < j.list.length), ∃ b o x, c.la = some ⟨b, o, none⟩ ∧ S b ∧ At6 w b (o + i * 6) x ∧ VR w S j.list[i] x) ∧
    (∀ i (_ : i < j.ents.length), ∃ b o, c.ka = some ⟨b, o, none⟩ ∧ S b ∧ w.cell? ⟨b, o + i, none⟩ = some (.string j.ents[i].1)) ∧
    ∀ i (_ : i < j.ents.length), ∃ b o x, c.va = some ⟨b, o, none⟩ ∧ S b ∧ At6 w b (o + i * 6) x ∧ VR w S j.ents[i].2 x
termination_by SizeOf.sizeOf j
decreasing_by
  · exact sizeOf_list j ‹_›
  · exact sizeOf_ents j ‹_›

/-- The blocks of S are in w' as in w. -/
def Same (S : Nat → Prop) (w w' : World) : Prop := ∀ b, S b → w'.heap[b]? = w.heap[b]?
theorem Same.of_below {B : Nat} {w w' : World} (h : Below B w w') : Same (· < B) w w' := fun b hb => h.block b hb
theorem Same.refl (S : Nat → Prop) (w : World) : Same S w w := fun _ _ => rfl
theorem Same.cell {S : Nat → Prop} {w w' : World} (h : Same S w w') {b o : Nat} (hb : S b) : w'.cell? ⟨b, o, none⟩ = w.cell? ⟨b, o, none⟩ := World.cell?_of_block (a := ⟨b, o, none⟩) (h b hb)

theorem At6.same {w w' : World} {b o : Nat} {c : VC} (h : At6 w b o c) (hb : w'.heap[b]? = w.heap[b]?) : At6 w' b o c :=
  ⟨(World.cell?_of_block (a := ⟨b, o, none⟩) hb).trans h.c0, (World.cell?_of_block (a := ⟨b, o + 1, none⟩) hb).trans h.c1, (World.cell?_of_block (a := ⟨b, o + 2, none⟩) hb).trans h.c2,
   (World.cell?_of_block (a := ⟨b, o + 3, none⟩) hb).trans h.c3, (World.cell?_of_block (a := ⟨b, o + 4, none⟩) hb).trans h.c4, (World.cell?_of_block (a := ⟨b, o + 5, none⟩) hb).trans h.c5⟩
theorem At6.below {w w' : World} {B b o : Nat} {c : VC} (h : At6 w b o c) (hb : Below B w w') (hlt : b < B) : At6 w' b o c := h.same (hb.block b hlt)

theorem VR.head {w : World} {S : Nat → Prop} {j : J} {c : VC} (h : VR w S j c) : Head j c := by rw [VR] at h; exact h.1

/-- A reading carried to another world and a wider set. -/
theorem VR.go {w w' : World} {S S' : Nat → Prop} (hb : Same S w w') (hS : ∀ b, S b → S' b) {j : J} {c : VC} (h : VR w S j c) : VR w' S' j c := by
  rw [VR] at h ⊢
  refine ⟨h.1, fun i hi => ?_, fun i hi => ?_, fun i hi => ?_⟩
  · obtain ⟨b, o, x, h1, h2, h3, h4⟩ := h.2.1 i hi
    exact ⟨b, o, x, h1, hS b h2, h3.same (hb b h2), VR.go hb hS h4⟩
  · obtain ⟨b, o, h1, h2, h3⟩ := h.2.2.1 i hi
    exact ⟨b, o, h1, hS b h2, (hb.cell h2).trans h3⟩
  · obtain ⟨b, o, x, h1, h2, h3, h4⟩ := h.2.2.2 i hi
    exact ⟨b, o, x, h1, hS b h2, h3.same (hb b h2), VR.go hb hS h4⟩
termination_by SizeOf.sizeOf j
decreasing_by
  · exact sizeOf_list j hi
  · exact sizeOf_ents j hi

theorem VR.mono {w : World} {S S' : Nat → Prop} (hS : ∀ b, S b → S' b) {j : J} {c : VC} (h : VR w S j c) : VR w S' j c := h.go (Same.refl S w) hS

/-- Block N is a box that holds c. -/
def Box (w : World) (N : Nat) (c : VC) : Prop := w.heap[N]? = some (.cells c.arr 26 (0, 0))
section
variable {w : World} {N : Nat} {c : VC}
theorem Box.c0 (h : Box w N c) : w.cell? ⟨N, 0, none⟩ = some (.int .i64 c.k) := by simp [World.cell?, show w.heap[N]? = _ from h, VC.arr]
theorem Box.c1 (h : Box w N c) : w.cell? ⟨N, 1, none⟩ = some (.int .i64 c.h) := by simp [World.cell?, show w.heap[N]? = _ from h, VC.arr]
theorem Box.c2 (h : Box w N c) : w.cell? ⟨N, 2, none⟩ = some (.string c.s) := by simp [World.cell?, show w.heap[N]? = _ from h, VC.arr]
theorem Box.c3 (h : Box w N c) : w.cell? ⟨N, 3, none⟩ = some (.slice c.la c.ll c.lc) := by simp [World.cell?, show w.heap[N]? = _ from h, VC.arr]
theorem Box.c4 (h : Box w N c) : w.cell? ⟨N, 4, none⟩ = some (.slice c.ka c.kl c.kc) := by simp [World.cell?, show w.heap[N]? = _ from h, VC.arr]
theorem Box.c5 (h : Box w N c) : w.cell? ⟨N, 5, none⟩ = some (.slice c.va c.vl c.vc) := by simp [World.cell?, show w.heap[N]? = _ from h, VC.arr]
theorem Box.fr (h : Box w N c) (o : Nat) : w.frozen? ⟨N, o, none⟩ = false := by simp [World.frozen?, show w.heap[N]? = _ from h]
theorem Box.lt (h : Box w N c) : N < w.heap.size := by
  rcases Nat.lt_or_ge N w.heap.size with h' | h'
  · exact h'
  · rw [Box, Array.getElem?_eq_none h'] at h; cases h
theorem Box.kept {w' : World} {b : Nat} (h : Box w N c) (hg : w.grownBy w' (some b)) (hne : N ≠ b) : Box w' N c := (hg.block N h.lt (by simp; omega)).trans h
theorem Box.below {w' : World} {B : Nat} (h : Box w N c) (hg : Below B w w') (hlt : N < B) : Box w' N c := (hg.block N hlt).trans h
theorem Box.at6 (h : Box w N c) : At6 w N 0 c := ⟨h.c0, h.c1, h.c2, h.c3, h.c4, h.c5⟩
theorem box_alloc (w : World) (c : VC) : Box (w.alloc (.cells c.arr 26)) w.heap.size c := by
  show (w.heap.push _)[w.heap.size]? = _
  simp
end
end Go.Proofs.YtnaijgdffbfapaaGreatDoor

namespace Go.Proofs.YtnaijgdffbfapaaGreatDoor
open Go.RowKit

/-- Whatever can be read as an impl.Value. -/
inductive T where
  | mk (k h : Int) (s : ByteArray) (l : List T) (ks : List ByteArray) (vs : List T)

def T.k : T → Int | .mk k _ _ _ _ _ => k
def T.h : T → Int | .mk _ h _ _ _ _ => h
def T.s : T → ByteArray | .mk _ _ s _ _ _ => s
def T.l : T → List T | .mk _ _ _ l _ _ => l
def T.ks : T → List ByteArray | .mk _ _ _ _ ks _ => ks
def T.vs : T → List T | .mk _ _ _ _ _ vs => vs

theorem T.lt_l (t : T) {i : Nat} (h : i < t.l.length) : SizeOf.sizeOf t.l[i] < SizeOf.sizeOf t := by
  cases t with | mk k h' s l ks vs =>
  have := List.sizeOf_lt_of_mem (List.getElem_mem (l := l) h)
  simp [T.l] at this ⊢; omega
theorem T.lt_vs (t : T) {i : Nat} (h : i < t.vs.length) : SizeOf.sizeOf t.vs[i] < SizeOf.sizeOf t := by
  cases t with | mk k h' s l ks vs =>
  have := List.sizeOf_lt_of_mem (List.getElem_mem (l := vs) h)
  simp [T.vs] at this ⊢; omega

/-- The plain cells of c are those of t, none too great. -/
structure THead (t : T) (c : VC) : Prop where
  k : c.k = t.k
  h : c.h = t.h
  s : c.s = t.s
  ll : c.ll = t.l.length
  kl : c.kl = t.ks.length
  vl : c.vl = t.vs.length
  bs : t.s.size ≤ 140737488351232
  bl : t.l.length ≤ 140737488351232
  bk : t.ks.length ≤ 140737488351232
  bv : t.vs.length ≤ 140737488351232
  lc : c.ll ≤ c.lc
  kc : c.kl ≤ c.kc
  vc : c.vl ≤ c.vc
  ln : c.la = none → c.lc = 0
  kn : c.ka = none → c.kc = 0
  vn : c.va = none → c.vc = 0

/-- c reads as t in w; all that it leads to lies below block B. -/
def TR (w : World) (B : Nat) (t : T) (c : VC) : Prop :=
  THead t c ∧ (∀ i (_ : i < t.l.length), ∃ b o x, c.la = some ⟨b, o, none⟩ ∧ b < B ∧ At6 w b (o + i * 6) x ∧ TR w B t.l[i] x) ∧
    (∀ i (_ : i < t.ks.length), ∃ b o, c.ka = some ⟨b, o, none⟩ ∧ b < B ∧ w.cell? ⟨b, o + i, none⟩ = some (.string t.ks[i]) ∧ t.ks[i].size ≤ 140737488351232) ∧
    ∀ i (_ : i < t.vs.length), ∃ b o x, c.va = some ⟨b, o, none⟩ ∧ b < B ∧ At6 w b (o + i * 6) x ∧ TR w B t.vs[i] x
termination_by SizeOf.sizeOf t
decreasing_by
  · exact t.lt_l ‹_›
  · exact t.lt_vs ‹_›

theorem TR.go {w w' : World} {B B' : Nat} (hb : Below B w w') (hB : B ≤ B') {t : T} {c : VC} (h : TR w B t c) : TR w' B' t c := by
  rw [TR] at h ⊢
  refine ⟨h.1, fun i hi => ?_, fun i hi => ?_, fun i hi => ?_⟩
  · obtain ⟨b, o, x, h1, h2, h3, h4⟩ := h.2.1 i hi
    exact ⟨b, o, x, h1, by omega, h3.below hb h2, TR.go hb hB h4⟩
  · obtain ⟨b, o, h1, h2, h3, h4⟩ := h.2.2.1 i hi
    exact ⟨b, o, h1, by omega, (hb.cell (p := ⟨b, o + i, none⟩) h2).trans h3, h4⟩
  · obtain ⟨b, o, x, h1, h2, h3, h4⟩ := h.2.2.2 i hi
    exact ⟨b, o, x, h1, by omega, h3.below hb h2, TR.go hb hB h4⟩
termination_by SizeOf.sizeOf t
decreasing_by
  · exact t.lt_l hi
  · exact t.lt_vs hi

/-- The JSON value that a right tree is. -/
def T.j : T → J
  | .mk k h s l ks vs =>
    if k = 0 then .null else if k = 1 then .bool false else if k = 2 then .bool true else if k = 3 then .num h else if k = 4 then .str s
    else if k = 5 then .arr (l.attach.map fun x => x.1.j) else .obj (ks.zip (vs.attach.map fun x => x.1.j))
termination_by t => SizeOf.sizeOf t
decreasing_by
  · have := List.sizeOf_lt_of_mem x.2; simp; omega
  · have := List.sizeOf_lt_of_mem x.2; simp; omega

theorem T.j_eq (t : T) : t.j = if t.k = 0 then .null else if t.k = 1 then .bool false else if t.k = 2 then .bool true else if t.k = 3 then .num t.h else if t.k = 4 then .str t.s
    else if t.k = 5 then .arr (t.l.map T.j) else .obj (t.ks.zip (t.vs.map T.j)) := by
  cases t; rw [T.j]; simp only [T.k, T.h, T.s, T.l, T.ks, T.vs, List.map_attach_eq_pmap, List.pmap_eq_map]; rfl

/-- How many values a tree has, how many bytes. -/
def T.n : T → Nat
  | .mk _ _ _ l _ vs => 1 + (l.attach.map fun x => x.1.n).sum + (vs.attach.map fun x => x.1.n).sum
termination_by t => SizeOf.sizeOf t
decreasing_by
  · have := List.sizeOf_lt_of_mem x.2; simp; omega
  · have := List.sizeOf_lt_of_mem x.2; simp; omega
theorem T.n_eq (t : T) : t.n = 1 + (t.l.map T.n).sum + (t.vs.map T.n).sum := by cases t; rw [T.n]; simp [T.l, T.vs]

/-- What one value's own cells must be. -/
structure Own1 (t : T) : Prop where
  k0 : 0 ≤ t.k
  k6 : t.k ≤ 6
  half : t.k = 3 ∨ t.h = 0
  text : t.k = 4 ∨ t.s = ByteArray.empty
  list : t.k = 5 ∨ t.l = []
  keys : t.k = 6 ∨ t.ks = []
  vals : t.ks.length = t.vs.length
  lo : -18014398509481984 ≤ t.h
  hi : t.h ≤ 18014398509481984
  odd : t.h % 2 = 0 ∨ (-9007199254740992 < t.h ∧ t.h < 9007199254740992)
  txt : t.s.size ≤ 2000

/-- A right tree. -/
def Good (t : T) : Prop :=
  Own1 t ∧ (∀ i (_ : i < t.l.length), Good t.l[i]) ∧ (∀ i (_ : i < t.ks.length), t.ks[i].size ≤ 2000) ∧
    (∀ i (_ : i + 1 < t.ks.length), Op.bytesLess t.ks[i].toList t.ks[i + 1].toList = true) ∧ ∀ i (_ : i < t.vs.length), Good t.vs[i]
termination_by SizeOf.sizeOf t
decreasing_by
  · exact t.lt_l ‹_›
  · exact t.lt_vs ‹_›
end Go.Proofs.YtnaijgdffbfapaaGreatDoor

namespace Go.Proofs.YtnaijgdffbfapaaGreatDoor

/-- A step of a path: an index, or a key. -/
inductive Stp where
  | idx (i : Nat)
  | key (s : ByteArray)

def Stp.j : Stp → J | .idx i => .num (2 * (i : Int)) | .key s => .str s

/-- A path leads from a value to another one within it. -/
inductive Leads : J → List Stp → J → Prop where
  | nil (j : J) : Leads j [] j
  | idx {l : List J} {i : Nat} {p : List Stp} {y : J} (h : i < l.length) (hp : Leads l[i] p y) : Leads (.arr l) (.idx i :: p) y
  | key {m : List (ByteArray × J)} {s : ByteArray} {x : J} {p : List Stp} {y : J} (h : (s, x) ∈ m) (hp : Leads x p y) : Leads (.obj m) (.key s :: p) y

/-- A value without what stands at a path. -/
def delJ : List Stp → J → J
  | [.idx i], .arr l => .arr (l.eraseIdx i)
  | [.key s], .obj m => .obj (m.filter fun x => decide (x.1 ≠ s))
  | .idx i :: p, .arr l => .arr (l.modify i (delJ p))
  | .key s :: p, .obj m => .obj (m.map fun x => if x.1 = s then (x.1, delJ p x.2) else x)
  | _, j => j

theorem delJ_idx {i : Nat} {p : List Stp} (hp : p ≠ []) (l : List J) : delJ (.idx i :: p) (.arr l) = .arr (l.modify i (delJ p)) := by
  cases p with
  | nil => exact absurd rfl hp
  | cons a p => rw [delJ]; simp
theorem delJ_key {s : ByteArray} {p : List Stp} (hp : p ≠ []) (m : List (ByteArray × J)) : delJ (.key s :: p) (.obj m) = .obj (m.map fun x => if x.1 = s then (x.1, delJ p x.2) else x) := by
  cases p with
  | nil => exact absurd rfl hp
  | cons a p => rw [delJ]; simp

/-- What stands behind a path's last step is gone; the path to it leads on. -/
theorem Leads.del {st : Stp} : ∀ (q : List Stp) {j z : J}, Leads j (q ++ [st]) z → ∃ x, Leads j q x ∧ Leads x [st] z ∧ Leads (delJ (q ++ [st]) j) q (delJ [st] x)
  | [], j, z, h => ⟨j, .nil j, h, .nil _⟩
  | a :: q, j, z, h => by
    have hne : q ++ [st] ≠ [] := by simp
    rw [List.cons_append] at h
    cases h with
    | @idx l i p y hi hp =>
      obtain ⟨x, h1, h2, h3⟩ := Leads.del q hp
      refine ⟨x, .idx hi h1, h2, ?_⟩
      rw [List.cons_append, delJ_idx hne]
      have hi' : i < (l.modify i (delJ (q ++ [st]))).length := by simpa using hi
      refine .idx hi' ?_
      have e : (l.modify i (delJ (q ++ [st])))[i] = delJ (q ++ [st]) l[i] := by simp
      rw [e]; exact h3
    | @key m s x0 p y hm hp =>
      obtain ⟨x, h1, h2, h3⟩ := Leads.del q hp
      refine ⟨x, .key hm h1, h2, ?_⟩
      rw [List.cons_append, delJ_key hne]
      exact .key (x := delJ (q ++ [st]) x0) (List.mem_map.2 ⟨(s, x0), hm, by simp⟩) h3

theorem Leads.app {p q : List Stp} {j x y : J} (h : Leads j p x) (h2 : Leads x q y) : Leads j (p ++ q) y := by
  induction h with
  | nil => exact h2
  | idx hi _ ih => exact .idx hi (ih h2)
  | key hm _ ih => exact .key hm (ih h2)

/-- A path's last step. -/
theorem snoc_of {p : List Stp} (h : p ≠ []) : ∃ q st, p = q ++ [st] := ⟨p.dropLast, p.getLast h, (List.dropLast_concat_getLast h).symm⟩

/-- An array and an index in it, or an object and a key of it. -/
theorem Leads.last {st : Stp} {x z : J} (h : Leads x [st] z) : (∃ (l : List J) (i : Nat) (hi : i < l.length), x = .arr l ∧ st = .idx i ∧ l[i] = z) ∨ ∃ m s, x = .obj m ∧ st = .key s ∧ (s, z) ∈ m := by
  have nil : ∀ {a b : J}, Leads a [] b → a = b := fun h => by cases h; rfl
  cases h with
  | idx hi hp => exact Or.inl ⟨_, _, hi, rfl, rfl, nil hp⟩
  | key hm hp => exact Or.inr ⟨_, _, rfl, rfl, nil hp ▸ hm⟩

/-- The paths to a value and to all within it, the outer ones first. -/
def waysJ : J → List (List Stp)
  | .arr l => [] :: (l.attach.zipIdx).flatMap fun x => (waysJ x.1.1).map (Stp.idx x.2 :: ·)
  | .obj m => [] :: m.attach.flatMap fun x => (waysJ x.1.2).map (Stp.key x.1.1 :: ·)
  | _ => [[]]
termination_by j => SizeOf.sizeOf j
decreasing_by
  · have := List.sizeOf_lt_of_mem x.1.2; simp; omega
  · have h1 := List.sizeOf_lt_of_mem x.2
    have h2 : SizeOf.sizeOf x.1.2 < SizeOf.sizeOf x.1 := by cases x.1; simp; omega
    simp; omega
end Go.Proofs.YtnaijgdffbfapaaGreatDoor
