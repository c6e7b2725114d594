/- What it means that the cells of an impl.Value read as any tree at all, right or not, each length at most 2^47 - 4096. -/
import Derived.Test.YtjannccgfmclhaaGreatDoorRep
namespace Go.Proofs.YtjannccgfmclhaaGreatDoor
open Go.RowKit

/-- Whatever can be read as an impl.Value. -/
inductive T where
  | mk (k h : Int) (s : ByteArray) (l : List T) (ks : List ByteArray) (vs : List T)

def T.k : T → Int | .mk k _ _ _ _ _ => k
def T.h : T → Int | .mk _ h _ _ _ _ => h
def T.s : T → ByteArray | .mk _ _ s _ _ _ => s
def T.l : T → List T | .mk _ _ _ l _ _ => l
def T.ks : T → List ByteArray | .mk _ _ _ _ ks _ => ks
def T.vs : T → List T | .mk _ _ _ _ _ vs => vs

theorem T.lt_l (t : T) {i : Nat} (h : i < t.l.length) : SizeOf.sizeOf t.l[i] < SizeOf.sizeOf t := by
  cases t with | mk k h' s l ks vs =>
  have := List.sizeOf_lt_of_mem (List.getElem_mem (l := l) h)
  simp [T.l] at this ⊢; omega
theorem T.lt_vs (t : T) {i : Nat} (h : i < t.vs.length) : SizeOf.sizeOf t.vs[i] < SizeOf.sizeOf t := by
  cases t with | mk k h' s l ks vs =>
  have := List.sizeOf_lt_of_mem (List.getElem_mem (l := vs) h)
  simp [T.vs] at this ⊢; omega

/-- The plain cells of c are those of t, none too great. -/
structure THead (t : T) (c : VC) : Prop where
  k : c.k = t.k
  h : c.h = t.h
  s : c.s = t.s
  ll : c.ll = t.l.length
  kl : c.kl = t.ks.length
  vl : c.vl = t.vs.length
  bs : t.s.size ≤ 140737488351232
  bl : t.l.length ≤ 140737488351232
  bk : t.ks.length ≤ 140737488351232
  bv : t.vs.length ≤ 140737488351232

/-- c reads as t in w; all that it leads to lies below block B. -/
def TR (w : World) (B : Nat) (t : T) (c : VC) : Prop :=
  THead t c ∧ (∀ i (_ : i < t.l.length), ∃ b o x, c.la = some ⟨b, o, none⟩ ∧ b < B ∧ At6 w b (o + i * 6) x ∧ TR w B t.l[i] x) ∧
    (∀ i (_ : i < t.ks.length), ∃ b o, c.ka = some ⟨b, o, none⟩ ∧ b < B ∧ w.cell? ⟨b, o + i, none⟩ = some (.string t.ks[i]) ∧ t.ks[i].size ≤ 140737488351232) ∧
    ∀ i (_ : i < t.vs.length), ∃ b o x, c.va = some ⟨b, o, none⟩ ∧ b < B ∧ At6 w b (o + i * 6) x ∧ TR w B t.vs[i] x
termination_by SizeOf.sizeOf t
decreasing_by
  · exact t.lt_l ‹_›
  · exact t.lt_vs ‹_›

theorem TR.go {w w' : World} {B B' : Nat} (hb : Below B w w') (hB : B ≤ B') {t : T} {c : VC} (h : TR w B t c) : TR w' B' t c := by
  rw [TR] at h ⊢
  refine ⟨h.1, fun i hi => ?_, fun i hi => ?_, fun i hi => ?_⟩
  · obtain ⟨b, o, x, h1, h2, h3, h4⟩ := h.2.1 i hi
    exact ⟨b, o, x, h1, by omega, h3.below hb h2, TR.go hb hB h4⟩
  · obtain ⟨b, o, h1, h2, h3, h4⟩ := h.2.2.1 i hi
    exact ⟨b, o, h1, by omega, (hb.cell (p := ⟨b, o + i, none⟩) h2).trans h3, h4⟩
  · obtain ⟨b, o, x, h1, h2, h3, h4⟩ := h.2.2.2 i hi
    exact ⟨b, o, x, h1, by omega, h3.below hb h2, TR.go hb hB h4⟩
termination_by SizeOf.sizeOf t
decreasing_by
  · exact t.lt_l hi
  · exact t.lt_vs hi

/-- The JSON value that a right tree is. -/
def T.j : T → J
  | .mk k h s l ks vs =>
    if k = 0 then .null else if k = 1 then .bool false else if k = 2 then .bool true else if k = 3 then .num h else if k = 4 then .str s
    else if k = 5 then .arr (l.attach.map fun x => x.1.j) else .obj (ks.zip (vs.attach.map fun x => x.1.j))
termination_by t => SizeOf.sizeOf t
decreasing_by
  · have := List.sizeOf_lt_of_mem x.2; simp; omega
  · have := List.sizeOf_lt_of_mem x.2; simp; omega

theorem T.j_eq (t : T) : t.j = if t.k = 0 then .null else if t.k = 1 then .bool false else if t.k = 2 then .bool true else if t.k = 3 then .num t.h else if t.k = 4 then .str t.s
    else if t.k = 5 then .arr (t.l.map T.j) else .obj (t.ks.zip (t.vs.map T.j)) := by
  cases t; rw [T.j]; simp only [T.k, T.h, T.s, T.l, T.ks, T.vs, List.map_attach_eq_pmap, List.pmap_eq_map]; rfl

/-- How many values a tree has, how many bytes. -/
def T.n : T → Nat
  | .mk _ _ _ l _ vs => 1 + (l.attach.map fun x => x.1.n).sum + (vs.attach.map fun x => x.1.n).sum
termination_by t => SizeOf.sizeOf t
decreasing_by
  · have := List.sizeOf_lt_of_mem x.2; simp; omega
  · have := List.sizeOf_lt_of_mem x.2; simp; omega
theorem T.n_eq (t : T) : t.n = 1 + (t.l.map T.n).sum + (t.vs.map T.n).sum := by cases t; rw [T.n]; simp [T.l, T.vs]

/-- What one value's own cells must be. -/
structure Own1 (t : T) : Prop where
  k0 : 0 ≤ t.k
  k6 : t.k ≤ 6
  half : t.k = 3 ∨ t.h = 0
  text : t.k = 4 ∨ t.s = ByteArray.empty
  list : t.k = 5 ∨ t.l = []
  keys : t.k = 6 ∨ t.ks = []
  vals : t.ks.length = t.vs.length
  lo : -18014398509481984 ≤ t.h
  hi : t.h ≤ 18014398509481984
  odd : t.h % 2 = 0 ∨ (-9007199254740992 < t.h ∧ t.h < 9007199254740992)
  txt : t.s.size ≤ 2000

/-- A right tree. -/
def Good (t : T) : Prop :=
  Own1 t ∧ (∀ i (_ : i < t.l.length), Good t.l[i]) ∧ (∀ i (_ : i < t.ks.length), t.ks[i].size ≤ 2000) ∧
    (∀ i (_ : i + 1 < t.ks.length), Op.bytesLess t.ks[i].toList t.ks[i + 1].toList = true) ∧ ∀ i (_ : i < t.vs.length), Good t.vs[i]
termination_by SizeOf.sizeOf t
decreasing_by
  · exact t.lt_l ‹_›
  · exact t.lt_vs ‹_›
end Go.Proofs.YtjannccgfmclhaaGreatDoor
