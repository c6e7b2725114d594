/- A part of the proof. A part of the proof. A part of the proof. A part of the proof. A part of the proof. -/
import Derived.Test.YtofpdcjgakmlnaaGreatDoorM23
import Derived.Test.YtofpdcjgakmlnaaGreatDoorM20
import Derived.Shelf.GgSortMore.Stable
import Derived.LoopTactic
namespace Go.Proofs.YtofpdcjgakmlnaaGreatDoor
open Go.RowKit Go.Shelf Go.Lib

/-- What a sort of items stands on: the row, the variable that holds it, the world at its start, the blocks of the values. -/
structure SortK where
  R : Nat
  n : Nat
  cap : Nat
  Bx : Nat
  sf : Nat
  N : Nat
  th : Value
  S : Nat → Prop
  w0 : World
def SortK.less (K : SortK) : Value := .func (.func 93) #[] #[.pointer (some ⟨K.Bx, 0, none⟩)]
def SortK.swap (K : SortK) : Value := .func (.func K.sf) #[] #[.slice (some ⟨K.R, 0, none⟩) K.n K.cap, K.th]
def SortK.ls (K : SortK) : Value := .agg #[K.less, K.swap]

def ptrOf (b : Nat) : Value := .pointer (some ⟨b, 0, none⟩)
def rowOf (f : Nat → Nat × J) (n : Nat) : List Value := (List.range n).map fun i => ptrOf (f i).1
theorem rowOf_len (f : Nat → Nat × J) (n : Nat) : (rowOf f n).length = n := by simp [rowOf]
theorem rowOf_get (f : Nat → Nat × J) {n i : Nat} (h : i < (rowOf f n).length) : (rowOf f n)[i] = ptrOf (f i).1 := by simp [rowOf]
theorem rowOf_swp (f : Nat → Nat × J) {n i j : Nat} : ((rowOf f n).set i (ptrOf (f j).1)).set j (ptrOf (f i).1) = rowOf (swp f i j) n := by
  apply List.ext_getElem
  · simp [rowOf]
  · intro k h1 h2
    rw [rowOf_get, List.getElem_set, List.getElem_set]
    unfold swp
    by_cases e1 : j = k
    · subst e1
      rw [if_pos rfl]
      by_cases e2 : j = i
      · subst e2; rw [if_pos rfl]
      · rw [if_neg e2, if_pos rfl]
    · rw [if_neg e1]
      by_cases e2 : i = k
      · subst e2; rw [if_pos rfl, if_pos rfl]
      · rw [if_neg e2, if_neg (Ne.symm e2), if_neg (Ne.symm e1), rowOf_get]

/-- An item: a value, twice. -/
def SItem (w : World) (S : Nat → Prop) (p : Nat × J) : Prop := ∃ v k, w.heap[p.1]? = some (.cells #[v, k] 113 (0, 0)) ∧ JR w S p.2 v ∧ JR w S p.2 k
structure SortK.Ok (K : SortK) : Prop where
  n : K.n ≤ 1000000
  box : K.w0.cell? ⟨K.Bx, 0, none⟩ = some (.slice (some ⟨K.R, 0, none⟩) K.n K.cap)
  bx : K.Bx ≠ K.R
  bxl : K.Bx < K.w0.heap.size
  S : ∀ b, K.S b → b < K.w0.heap.size ∧ b ≠ K.R
  th : K.th = typeHandle Tryz.prog 111
  sw : ∃ gS, ∀ args W, (callFunc K.sf args).run Tryz.prog W = ((Extern.ReflectliteSwapper.swap gS args).run Tryz.prog W).andThen fun v w' => .ok (.value v) w'
/-- How it stands in the midst. -/
structure St (K : SortK) (f : Nat → Nat × J) (W : World) : Prop where
  row : W.heap[K.R]? = some (.cells (rowOf f K.n).toArray 111 (0, 0))
  grow : K.w0.grownBy W (some K.R)
  item : ∀ i, i < K.n → SItem K.w0 K.S (f i) ∧ (f i).1 ≠ K.R ∧ JOK (f i).2 ∧ SizeOf.sizeOf (f i).2 ≤ K.N
section
variable {K : SortK} {f : Nat → Nat × J} {W : World}
theorem St.lt (h : St K f W) : K.R < W.heap.size := by
  rcases Nat.lt_or_ge K.R W.heap.size with h' | h'
  · exact h'
  · have := h.row; rw [Array.getElem?_eq_none h'] at this; cases this
theorem St.below {W' : World} (h : St K f W) (hb : Below W.heap.size W W') : St K f W' :=
  ⟨(hb.block _ h.lt).trans h.row, ⟨hb.os.trans h.grow.os, hb.tape.trans h.grow.tape, hb.output.trans h.grow.output, Nat.le_trans h.grow.size hb.size, fun k hk hne => (hb.block k (Nat.lt_of_lt_of_le hk h.grow.size)).trans (h.grow.block k hk hne)⟩, h.item⟩
theorem St.cell (h : St K f W) {i : Nat} (hi : i < K.n) : W.cell? ⟨K.R, i, none⟩ = some (ptrOf (f i).1) := by
  rw [Lib.cell_of_heap h.row]
  have : i < (rowOf f K.n).length := by rw [rowOf_len]; exact hi
  simp [this, rowOf_get]
theorem St.fr (h : St K f W) (i : Nat) : W.frozen? ⟨K.R, i, none⟩ = false := by simp [World.frozen?, h.row]
theorem SItem.go {w w' : World} {S : Nat → Prop} {R : Nat} {p : Nat × J} (h : SItem w S p) (hg : w.grownBy w' (some R)) (hp : p.1 ≠ R) (hS : ∀ b, S b → b < w.heap.size ∧ b ≠ R) : SItem w' S p := by
  obtain ⟨v, k, h1, h2, h3⟩ := h
  have hlt : p.1 < w.heap.size := by
    rcases Nat.lt_or_ge p.1 w.heap.size with h' | h'
    · exact h'
    · rw [Array.getElem?_eq_none h'] at h1; cases h1
  have hs : Same S w w' := fun b hb => hg.block b (hS b hb).1 (fun e => (hS b hb).2 (Option.some.inj e))
  exact ⟨v, k, (hg.block _ hlt (fun e => hp (Option.some.inj e))).trans h1, h2.go hs (fun _ h => h), h3.go hs (fun _ h => h)⟩

/-- The two stores of a swap. -/
theorem St.swap (h : St K f W) {i j : Nat} (hi : i < K.n) (hj : j < K.n) : St K (swp f i j) ((W.setCell ⟨K.R, i, none⟩ (ptrOf (f j).1)).setCell ⟨K.R, j, none⟩ (ptrOf (f i).1)) := by
  have h1 := heap_setCell_same W ⟨K.R, i, none⟩ (ptrOf (f j).1) h.row rfl
  have h2 := heap_setCell_same (W.setCell ⟨K.R, i, none⟩ (ptrOf (f j).1)) ⟨K.R, j, none⟩ (ptrOf (f i).1) h1 rfl
  refine ⟨?_, ?_, ?_⟩
  · rw [← rowOf_swp f]
    simpa using h2
  · have g1 := grown_setCell W K.R i (ptrOf (f j).1)
    have g2 := grown_setCell (W.setCell ⟨K.R, i, none⟩ (ptrOf (f j).1)) K.R j (ptrOf (f i).1)
    exact ⟨h.grow.os, h.grow.tape, h.grow.output, by have := h.grow.size; simpa [World.setCell] using this, fun k hk hne => (Below.heap_setCell _ _ _ _ (fun e => hne (by rw [e]))).trans ((Below.heap_setCell _ _ _ _ (fun e => hne (by rw [e]))).trans (h.grow.block k hk hne))⟩
  · intro k hk
    unfold swp
    split
    · exact h.item j hj
    · split
      · exact h.item i hi
      · exact h.item k hk

theorem swap_run (hK : K.Ok) (h : St K f W) {i j : Nat} (hi : i < K.n) (hj : j < K.n) :
    (callFunc K.sf #[.int .i64 (i : Int), .int .i64 (j : Int), .slice (some ⟨K.R, 0, none⟩) K.n K.cap, K.th]).run Tryz.prog W = .ok (.value (.tuple #[])) ((W.setCell ⟨K.R, i, none⟩ (ptrOf (f j).1)).setCell ⟨K.R, j, none⟩ (ptrOf (f i).1)) := by
  obtain ⟨gS, hx⟩ := hK.sw
  have hie : ∃ ie, Tryz.prog.info? 111 = some ie ∧ ie.size = 1 := by
    have : (Tryz.prog.info? 111).map (·.size) = some 1 := by kernel_rfl
    obtain ⟨ie, h1, h2⟩ := Option.map_eq_some_iff.1 this
    exact ⟨ie, h1, h2⟩
  obtain ⟨ie, hie, hs⟩ := hie
  have := run_swap_one (P := Tryz.prog) gS 111 ie hie hs Tryz.isAgg111 K.R 0 K.n K.cap i j hi hj (ptrOf (f i).1) (ptrOf (f j).1) rfl rfl W (by rw [Nat.zero_add]; exact h.cell hi) (by rw [Nat.zero_add]; exact h.cell hj) (h.fr _) (h.fr _)
  rw [hx, hK.th, this]
  simp [Result.andThen]


set_option maxRecDepth 100000 in
set_option maxHeartbeats 1000000 in
/-- The function that tells which of two items comes first. -/
theorem less_any (hK : K.Ok) (h : St K f W) {i j : Nat} (hi : i < K.n) (hj : j < K.n) :
    Calls Tryz.prog 93 #[.int .i64 (i : Int), .int .i64 (j : Int), .pointer (some ⟨K.Bx, 0, none⟩)] W fun e w' => e = .returned (.bool (decide (cmpN K.N (f i).2 (f j).2 < 0))) ∧ Below W.heap.size W w' := by
  have hbx : W.cell? ⟨K.Bx, 0, none⟩ = some (.slice (some ⟨K.R, 0, none⟩) K.n K.cap) := (World.cell?_of_block (a := ⟨K.Bx, 0, none⟩) (h.grow.block K.Bx hK.bxl (fun e => hK.bx (Option.some.inj e)))).trans hK.box
  have ci := h.cell hi; have cj := h.cell hj
  obtain ⟨it1, ne1, ok1, sz1⟩ := h.item i hi
  obtain ⟨it2, ne2, ok2, sz2⟩ := h.item j hj
  obtain ⟨v1, x, p1, _, r1⟩ := it1.go h.grow ne1 hK.S
  obtain ⟨v2, y, p2, _, r2⟩ := it2.go h.grow ne2 hK.S
  have q1 : W.cell? ⟨(f i).1, 1, none⟩ = some x := by rw [Lib.cell_of_heap p1]; rfl
  have q2 : W.cell? ⟨(f j).1, 1, none⟩ = some y := by rw [Lib.cell_of_heap p2]; rfl
  have C := Lib.hid fun w' (hb : Below W.heap.size W w') => Compare_any K.N (f i).2 (f j).2 x y K.S w' sz1 ok1 ok2 (r1.go (fun b hs => hb.block b (Nat.lt_of_lt_of_le (hK.S b hs).1 h.grow.size)) (fun _ h => h)) (r2.go (fun b hs => hb.block b (Nat.lt_of_lt_of_le (hK.S b hs).1 h.grow.size)) (fun _ h => h)) (fun b hs => Nat.lt_of_lt_of_le (hK.S b hs).1 (Nat.le_trans h.grow.size hb.size))
  clear h it1 it2 ne1 ne2 ok1 ok2 sz1 sz2 p1 p2 r1 r2 hK
  unfold ptrOf at ci cj
  generalize (f i).1 = b1 at *
  generalize (f j).1 = b2 at *
  generalize cmpN K.N (f i).2 (f j).2 = c at *
  go_enter Tryz.func93, Tryz.ntmps93
  go_wp2_with fail
  go_region_with (first
    | (go_at_call 36; refine (C.out _ (Below.refl _ _).drew).mono ?_
       rintro e w2 ⟨rfl, hb⟩
       have W2 := Lib.hid ((Below.refl W.heap.size W).drew.trans hb)
       clear hb))
  all_goals
    go_wp2_with fail
    go_ret
    exact ⟨rfl, W2.out⟩
end
end Go.Proofs.YtofpdcjgakmlnaaGreatDoor

namespace Go.Proofs.YtofpdcjgakmlnaaGreatDoor
open Go.RowKit Go.Shelf Go.Lib

section
variable {β : Type}
theorem swr_sw (f : Nat → β) {a b lo hi : Nat} (h1 : lo ≤ a) : ∀ k, a + k ≤ b → b + k ≤ hi → Sw lo hi f (swr f a b k)
  | 0, _, _ => by rw [swr_zero]; exact .refl _
  | k + 1, h2, h3 => by
    rw [← swr_succ f (by omega)]
    exact .step (swr_sw f h1 k (by omega) (by omega)) (by omega) (by omega) (by omega) (by omega)
theorem rot_sw : ∀ (s i j m : Nat) (f : Nat → β), i + j ≤ s → 0 < i → 0 < j → i ≤ m → Sw (m - i) (m + j) f (rot f (m - i) m (m + j))
  | 0, i, j, _, _, h, h1, _, _ => by omega
  | s + 1, i, j, m, f, h, h1, h2, h3 => by
    rcases Nat.lt_trichotomy i j with hij | hij | hij
    · rw [← rot_right f hij h3]
      exact (swr_sw f (Nat.le_refl _) i (by omega) (by omega)).trans ((rot_sw s i (j - i) m _ (by omega) h1 (by omega) h3).mono (Nat.le_refl _) (by omega))
    · subst hij
      rw [← rot_same f h3]
      exact swr_sw f (Nat.le_refl _) i (by omega) (by omega)
    · rw [← rot_left f hij h3]
      exact (swr_sw f (Nat.le_refl _) j (by omega) (by omega)).trans ((rot_sw s (i - j) j m _ (by omega) (by omega) h2 (by omega)).mono (by omega) (by omega))
theorem rot_sw' {a m b : Nat} (f : Nat → β) (h1 : a < m) (h2 : m < b) : Sw a b f (rot f a m b) := by
  have h := rot_sw (b - a) (m - a) (b - m) m f (by omega) (by omega) (by omega) (by omega)
  rw [show m - (m - a) = a by omega, show m + (b - m) = b by omega] at h
  exact h
theorem upTo_sw (f : Nat → β) {a lo hi : Nat} (h0 : lo ≤ a) : ∀ d, a + d < hi → Sw lo hi f (upTo f a (a + d))
  | 0, _ => by rw [Nat.add_zero, upTo_zero]; exact .refl _
  | d + 1, h => by
    rw [← Nat.add_assoc, ← upTo_succ f (by omega)]
    exact .step (upTo_sw f h0 d (by omega)) (by omega) (by omega) (by omega) (by omega)
theorem downTo_sw (f : Nat → β) {m lo hi : Nat} (h0 : m < hi) : ∀ d, d ≤ m → lo ≤ m - d → Sw lo hi f (downTo f m (m - d))
  | 0, _, _ => by rw [Nat.sub_zero, downTo_zero]; exact .refl _
  | d + 1, h, h1 => by
    have e := downTo_succ f (m := m) (k := m - (d + 1)) (by omega)
    rw [show m - (d + 1) + 1 = m - d by omega] at e
    rw [← e]
    exact .step (downTo_sw f h0 d (by omega) (by omega)) (by omega) (by omega) (by omega) (by omega)
end

section
variable {K : SortK}

/-- The box of what sort is given. -/
def LsBox (K : SortK) (w : World) (b : Nat) : Prop := w.heap[b]? = some (.cells #[K.less, K.swap] 191 (0, 0))
theorem LsBox.c0 {w : World} {b : Nat} (h : LsBox K w b) : w.cell? ⟨b, 0, none⟩ = some K.less := by simp [World.cell?, show w.heap[b]? = _ from h]
theorem LsBox.c1 {w : World} {b : Nat} (h : LsBox K w b) : w.cell? ⟨b, 1, none⟩ = some K.swap := by simp [World.cell?, show w.heap[b]? = _ from h]
theorem LsBox.lt {w : World} {b : Nat} (h : LsBox K w b) : b < w.heap.size := by
  rcases Nat.lt_or_ge b w.heap.size with h' | h'
  · exact h'
  · rw [LsBox, Array.getElem?_eq_none h'] at h; cases h
theorem LsBox.go {w w' : World} {b : Nat} (h : LsBox K w b) (hg : w.grownBy w' (some K.R)) (hne : b ≠ K.R) : LsBox K w' b := (hg.block b h.lt (fun e => hne (Option.some.inj e))).trans h

theorem LsBox.set {w : World} {b : Nat} (h : LsBox K w b) (hne : b ≠ K.R) {i : Nat} {v : Value} : LsBox K (w.setCell ⟨K.R, i, none⟩ v) b := (Below.heap_setCell _ _ _ _ hne).trans h

theorem gr_below {w w' : World} {B : Nat} {row : Option Nat} (h : Below B w w') (hB : w.heap.size ≤ B) : w.grownBy w' row := ⟨h.os, h.tape, h.output, h.size, fun k hk _ => h.block k (by omega)⟩

/-- What a step of sort has left. -/
structure Rn (K : SortK) (W : World) (g : Nat → Nat × J) (w : World) : Prop where
  st : St K g w
  gr : W.grownBy w (some K.R)
/-- How it stands within a step, its box laid. -/
structure Lp (K : SortK) (W : World) (g : Nat → Nat × J) (w : World) : Prop where
  st : St K g w
  gr : W.grownBy w (some K.R)
  bx : LsBox K w W.heap.size
  ne : W.heap.size ≠ K.R
section
variable {f g : Nat → Nat × J} {W w w' : World}
theorem Lp.rn (h : Lp K W f w) : Rn K W f w := ⟨h.st, h.gr⟩
theorem Lp.start (h : St K f W) : Lp K W f (W.alloc (.cells #[K.less, K.swap] 191)) :=
  ⟨h.below ((Below.refl _ _).alloc (Nat.le_refl _) _), World.grownBy_alloc W _ _, heap_alloc_at _ _, by have := h.lt; omega⟩
theorem Lp.call (h : Lp K W f w) (hr : Rn K w g w') : Lp K W g w' := ⟨hr.st, h.gr.trans hr.gr, h.bx.go hr.gr h.ne, h.ne⟩
theorem Lp.below (h : Lp K W f w) {B : Nat} (hb : Below B w w') (hB : w.heap.size ≤ B) : Lp K W f w' := h.call ⟨h.st.below (hb.mono hB), gr_below hb hB⟩
theorem Lp.swap (h : Lp K W f w) {i j : Nat} (hi : i < K.n) (hj : j < K.n) : Lp K W (swp f i j) ((w.setCell ⟨K.R, i, none⟩ (ptrOf (f j).1)).setCell ⟨K.R, j, none⟩ (ptrOf (f i).1)) :=
  h.call ⟨h.st.swap hi hj, (grown_setCell _ _ _ _).trans (grown_setCell _ _ _ _)⟩
end

set_option maxRecDepth 100000 in
/-- swapRange. -/
theorem swapRange_any {f : Nat → Nat × J} {W : World} {a b k : Nat} (hK : K.Ok) (h : St K f W) (h1 : a + k ≤ b) (h2 : b + k ≤ K.n) : Calls Tryz.prog 182 #[K.ls, .int .i64 a, .int .i64 b, .int .i64 k] W fun e w' => e = .returned (.tuple #[]) ∧ Rn K W (swr f a b k) w' := by
  have hn := hK.n
  have HK := Lib.hid hK; have HS := Lib.hid (Lp.start h); have H1 := Lib.hid h1; have H2 := Lib.hid h2
  unfold SortK.ls
  clear h hK
  go_enter Tryz.func182, Tryz.ntmps182
  go_wp2_with fail
  go_loopw [8] (fun i wr => ∃ m : Nat, i = .int .i64 m ∧ m ≤ k ∧ Lp K W (swr f a b m) wr) (fun i _ => k - (intOf i).toNat)
  case atStart => exact ⟨0, rfl, Nat.zero_le _, by rw [swr_zero]; exact HS.out⟩
  case round =>
    obtain ⟨m, rfl, hm, hA⟩ := hrel
    by_cases hlt : m < k
    · have c1 := hA.bx.c1
      unfold SortK.swap at c1
      have i1 : a + m < K.n := by have := H1.out; have := H2.out; omega
      have i2 : b + m < K.n := by have := H2.out; omega
      have R := swap_run HK.out hA.st i1 i2
      rw [Int.natCast_add, Int.natCast_add] at R
      have HA := Lib.hid (hA.swap i1 i2)
      clear hA
      go_wp2_with fail
      go_roundw
      case rel => exact ⟨m + 1, by go_num, by omega, by rw [← swr_succ _ (by omega)]; exact HA.out⟩
      case measure => simp [intOf]; omega
    · obtain rfl : m = k := by omega
      have HA := Lib.hid hA
      clear hA
      go_wp2_with fail
      go_end0
      exact ⟨rfl, HA.out.rn⟩

set_option maxRecDepth 100000 in
/-- rotate. -/
theorem rotate_any {f : Nat → Nat × J} {W : World} {a m b : Nat} (hK : K.Ok) (h : St K f W) (h1 : a < m) (h2 : m < b) (h3 : b ≤ K.n) : Calls Tryz.prog 173 #[K.ls, .int .i64 a, .int .i64 m, .int .i64 b] W fun e w' => e = .returned (.tuple #[]) ∧ Rn K W (rot f a m b) w' := by
  have hn := hK.n
  have SR := Lib.hid fun (g : Nat → Nat × J) (w : World) (x y k : Nat) (hs : Lp K W g w) (g1 : x + k ≤ y) (g2 : y + k ≤ K.n) => swapRange_any hK hs.st g1 g2
  have HS := Lib.hid (Lp.start h); have H1 := Lib.hid h1; have H2 := Lib.hid h2; have H3 := Lib.hid h3
  unfold SortK.ls at *
  clear h hK
  go_enter Tryz.func173, Tryz.ntmps173
  go_wp2_with fail
  go_loopw [8, 9] (fun i j wr => ∃ (x y : Nat) (g : Nat → Nat × J), i = .int .i64 x ∧ j = .int .i64 y ∧ 0 < x ∧ x ≤ m - a ∧ 0 < y ∧ y ≤ b - m ∧ rot g (m - x) m (m + y) = rot f a m b ∧ Lp K W g wr) (fun i j _ => (intOf i).toNat + (intOf j).toNat)
  case atStart => 
    refine ⟨m - a, b - m, f, ?_, ?_, by omega, Nat.le_refl _, by omega, Nat.le_refl _, by congr 1 <;> omega, HS.out⟩
    · go_num
    · go_num
  case round =>
    obtain ⟨x, y, g, rfl, rfl, hx0, hx, hy0, hy, he, hA⟩ := hrel
    have HE := Lib.hid he
    have c0 := hA.bx.c0
    have c1 := hA.bx.c1
    have HA := Lib.hid hA
    have h1 := H1.out; have h2 := H2.out; have h3 := H3.out
    rcases Nat.lt_trichotomy x y with hxy | hxy | hxy
    · have C := SR.out g wr (m - x) (m + y - x) x hA (by omega) (by omega)
      rw [Int.ofNat_sub (by omega), Int.ofNat_sub (by omega), Int.natCast_add] at C
      have C := Lib.hid C
      clear hA SR he
      go_wp2_with fail
      refine C.out.mono ?_
      rintro e w1 ⟨rfl, hr⟩
      have HB := Lib.hid (HA.out.call hr)
      clear hr
      go_wp2_with fail
      go_roundw
      case rel => exact ⟨x, y - x, _, by go_num, by go_num, hx0, hx, by omega, by omega, (rot_right g hxy (by omega)).trans HE.out, HB.out⟩
      case measure => simp [intOf]; omega
    · subst hxy
      have C := SR.out g wr (m - x) m x hA (by omega) (by omega)
      rw [Int.ofNat_sub (by omega)] at C
      have C := Lib.hid C
      clear hA SR he
      go_wp2_with fail
      refine C.out.mono ?_
      rintro e w1 ⟨rfl, hr⟩
      have HB := Lib.hid (HA.out.call hr)
      clear hr
      go_wp2_with fail
      go_end0
      refine ⟨rfl, ?_⟩
      have := HB.out.rn
      rw [rot_same g (by omega), HE.out] at this
      exact this
    · have C := SR.out g wr (m - x) m y hA (by omega) (by omega)
      rw [Int.ofNat_sub (by omega)] at C
      have C := Lib.hid C
      clear hA SR he
      go_wp2_with fail
      refine C.out.mono ?_
      rintro e w1 ⟨rfl, hr⟩
      have HB := Lib.hid (HA.out.call hr)
      clear hr
      go_wp2_with fail
      go_roundw
      case rel => exact ⟨x - y, y, _, by go_num, by go_num, by omega, by omega, hy0, hy, (rot_left g hxy (by omega)).trans HE.out, HB.out⟩
      case measure => simp [intOf]; omega

/-- What sort must bring about between two places. -/
def SortK.le (K : SortK) (p q : Nat × J) : Prop := cmpN K.N p.2 q.2 ≤ 0
theorem SortK.le_refl (p : Nat × J) : K.le p p := by unfold SortK.le; rw [cmpN_refl]; exact Int.le_refl _
theorem SortK.le_trans (p q r : Nat × J) (h1 : K.le p q) (h2 : K.le q r) : K.le p r := cmpN_trans _ _ _ _ h1 h2
theorem SortK.le_of (p q : Nat × J) (h : ¬ cmpN K.N p.2 q.2 < 0) : K.le q p := by have := cmpN_anti K.N p.2 q.2; unfold SortK.le; omega
theorem SortK.le_lt (p q : Nat × J) (h : cmpN K.N p.2 q.2 < 0) : K.le p q := by unfold SortK.le; omega

set_option maxRecDepth 100000 in
set_option maxHeartbeats 1000000 in
/-- insertionSort. -/
theorem insF_any {f : Nat → Nat × J} {W : World} {a b : Nat} (hK : K.Ok) (h : St K f W) (h1 : a ≤ b) (h2 : b ≤ K.n) : Calls Tryz.prog 156 #[K.ls, .int .i64 a, .int .i64 b] W fun e w' => e = .returned (.tuple #[]) ∧ ∃ g, Rn K W g w' ∧ Sw a b f g ∧ SortedOn K.le a b g := by
  have hn := hK.n
  have L := Lib.hid fun (g : Nat → Nat × J) (w : World) (x y : Nat) (hs : Lp K W g w) (g1 : x < K.n) (g2 : y < K.n) => less_any hK hs.st g1 g2
  have HK := Lib.hid hK
  have HS := Lib.hid (Lp.start h); have H1 := Lib.hid h1; have H2 := Lib.hid h2
  unfold SortK.ls at *
  clear h hK
  go_enter Tryz.func156, Tryz.ntmps156
  go_wp2_with fail
  go_loopw [6] (fun i wr => ∃ (k : Nat) (g : Nat → Nat × J), i = .int .i64 k ∧ a + 1 ≤ k ∧ (k ≤ b ∨ k = a + 1) ∧ Sw a b f g ∧ SortedOn K.le a k g ∧ Lp K W g wr) (fun i _ => b - (intOf i).toNat)
  case atStart => exact ⟨a + 1, f, by go_num, Nat.le_refl _, .inr rfl, .refl _, .short _ (Nat.le_refl _), HS.out⟩
  case round =>
    obtain ⟨k, g, rfl, hk1, hk2, hsw, hso, hA⟩ := hrel
    have HSW := Lib.hid hsw; have HSO := Lib.hid hso; have HA := Lib.hid hA
    clear hsw hso hA
    by_cases hlt : k < b
    · clear hk2
      go_wp2_with fail
      go_loopw [7] (fun j wr => ∃ (y : Nat), j = .int .i64 y ∧ a ≤ y ∧ y ≤ k ∧ (∀ x, y ≤ x → x < k → K.le (g k) (g x)) ∧ Lp K W (downTo g k y) wr) (fun j _ => (intOf j).toNat)
      case atStart => exact ⟨k, rfl, by omega, Nat.le_refl _, fun x q1 q2 => by omega, by rw [downTo_zero]; exact HA.out⟩
      case round =>
        obtain ⟨y, rfl, hy1, hy2, hle, hA⟩ := hrel
        have HLE := Lib.hid hle
        have e1 : downTo g k y y = g k := by unfold downTo; rw [if_neg (by omega), if_pos rfl]
        by_cases hay : a < y
        · have c0 := hA.bx.c0
          have c1 := hA.bx.c1
          unfold SortK.less at c0
          unfold SortK.swap at c1
          have h2 := H2.out
          have C := L.out (downTo g k y) _ y (y - 1) hA (by omega) (by omega)
          rw [Int.ofNat_sub (by omega), e1, show downTo g k y (y - 1) = g (y - 1) by unfold downTo; rw [if_neg (by omega), if_neg (by omega)]] at C
          have C := Lib.hid C
          have HA := Lib.hid hA
          clear hA L hle
          go_wp2_with fail
          refine C.out.mono ?_
          rintro e w1 ⟨rfl, hb⟩
          have hB := HA.out.below hb (Nat.le_refl _)
          clear hb c0 c1
          by_cases hc : cmpN K.N (g k).2 (g (y - 1)).2 < 0
          · have c1 := hB.bx.c1
            unfold SortK.swap at c1
            have R := swap_run HK.out hB.st (i := y) (j := y - 1) (by omega) (by omega)
            rw [Int.ofNat_sub (by omega), show ((1 : Nat) : Int) = 1 from rfl] at R
            have HB := Lib.hid (hB.swap (i := y) (j := y - 1) (by omega) (by omega))
            clear hB
            rw [show decide (cmpN K.N (g k).2 (g (y - 1)).2 < 0) = true from decide_eq_true hc]
            go_wp2_with fail
            go_roundw
            case rel =>
              refine ⟨y - 1, by go_num, by omega, by omega, fun x q1 q2 => ?_, ?_⟩
              · rcases Nat.lt_or_ge x y with hx | hx
                · obtain rfl : x = y - 1 := by omega
                  exact SortK.le_lt _ _ hc
                · exact HLE.out x hx q2
              · have := HB.out
                have e := downTo_succ g (m := k) (k := y - 1) (by omega)
                rw [show y - 1 + 1 = y by omega] at e
                rw [e, e1] at this
                exact this
            case measure => simp [intOf]; omega
          · have HB := Lib.hid hB
            clear hB
            rw [show decide (cmpN K.N (g k).2 (g (y - 1)).2 < 0) = false from decide_eq_false hc]
            go_wp2_with fail
            go_roundw
            case rel =>
              refine ⟨k + 1, _, by go_num, by omega, .inl (by omega), (HSW.out).trans ?_, sorted_down (i := y) (by omega) (by omega) HSO.out ?_ HLE.out, HB.out⟩
              · have := downTo_sw g (m := k) (lo := a) (hi := b) hlt (k - y) (by omega) (by omega)
                rwa [show k - (k - y) = y by omega] at this
              · intro x q1 q2
                exact SortK.le_trans _ _ _ (HSO.out.le_ SortK.le_refl q1 (show x ≤ y - 1 by omega) (by omega)) (SortK.le_of _ _ (by omega))
            case measure => simp [intOf]; omega
        · obtain rfl : y = a := by omega
          have HA := Lib.hid hA
          clear hA L hle
          go_wp2_with fail
          go_roundw
          case rel =>
            refine ⟨k + 1, _, by go_num, by omega, .inl (by omega), (HSW.out).trans ?_, sorted_down (i := y) (by omega) (by omega) HSO.out ?_ HLE.out, HA.out⟩
            · have := downTo_sw g (m := k) (lo := y) (hi := b) hlt (k - y) (by omega) (by omega)
              rwa [show k - (k - y) = y by omega] at this
            · intro x q1 q2; omega
          case measure => simp [intOf]; omega
    · clear L
      go_wp2_with fail
      go_end0
      exact ⟨rfl, g, HA.out.rn, HSW.out, HSO.out.sub (Nat.le_refl _) (by omega)⟩
end
end Go.Proofs.YtofpdcjgakmlnaaGreatDoor

namespace Go.Proofs.YtofpdcjgakmlnaaGreatDoor
open Go.RowKit Go.Shelf Go.Lib
section
variable {K : SortK}

set_option maxRecDepth 100000 in
set_option maxHeartbeats 1000000 in
/-- symMerge, one against many. -/
theorem symMerge_one {f : Nat → Nat × J} {W : World} {a m b : Nat} (hK : K.Ok) (h : St K f W) (h1 : m = a + 1) (h2 : m < b) (h3 : b ≤ K.n) (hs : SortedOn K.le m b f) : Calls Tryz.prog 157 #[K.ls, .int .i64 a, .int .i64 m, .int .i64 b] W fun e w' => e = .returned (.tuple #[]) ∧ ∃ g, Rn K W g w' ∧ Sw a b f g ∧ SortedOn K.le a b g := by
  have hn := hK.n
  have L := Lib.hid fun (g : Nat → Nat × J) (w : World) (x y : Nat) (hs : Lp K W g w) (g1 : x < K.n) (g2 : y < K.n) => less_any hK hs.st g1 g2
  have HK := Lib.hid hK
  have HS := Lib.hid (Lp.start h); have H1 := Lib.hid h1; have H2 := Lib.hid h2; have H3 := Lib.hid h3; have SO := Lib.hid hs
  have h1a := Nat.le_of_eq h1; have h1b := Nat.le_of_eq h1.symm
  unfold SortK.ls at *
  clear h hK hs h1
  go_enter Tryz.func157, Tryz.ntmps157
  go_wp2_with fail
  generalize ((m : Int) - (a : Int) == 1) = q26
  go_loopw [8, 9] (fun i j wr => ∃ (x y : Nat), i = .int .i64 x ∧ j = .int .i64 y ∧ m ≤ x ∧ x ≤ y ∧ y ≤ b ∧ (∀ k, m ≤ k → k < x → K.le (f k) (f a)) ∧ (∀ k, y ≤ k → k < b → K.le (f a) (f k)) ∧ Lp K W f wr) (fun i j _ => (intOf j).toNat - (intOf i).toNat)
  case atStart => exact ⟨m, b, rfl, rfl, Nat.le_refl _, by omega, Nat.le_refl _, fun k q1 q2 => by omega, fun k q1 q2 => by omega, HS.out⟩
  case round =>
    obtain ⟨x, y, rfl, rfl, hx, hxy, hy, hlo, hhi, hA⟩ := hrel
    have LO := Lib.hid hlo; have HI := Lib.hid hhi
    clear hlo hhi
    have h3 := H3.out; have h2 := H2.out
    by_cases hlt : x < y
    · have c0 := hA.bx.c0
      unfold SortK.less at c0
      have C := Lib.hid (L.out f _ ((x + y) / 2) a hA (by omega) (by omega))
      have HA := Lib.hid hA
      clear hA L
      go_wp2_with fail
      refine C.out.mono ?_
      rintro e w1 ⟨rfl, hb⟩
      have HB := Lib.hid (HA.out.below hb (Nat.le_refl _))
      clear hb c0
      by_cases hc : cmpN K.N (f ((x + y) / 2)).2 (f a).2 < 0
      · have CC := Lib.hid hc
        rw [show decide (cmpN K.N (f ((x + y) / 2)).2 (f a).2 < 0) = true from decide_eq_true hc]
        clear hc
        go_wp2_with fail
        go_roundw
        case rel =>
          refine ⟨(x + y) / 2 + 1, y, by go_num, rfl, by omega, by omega, hy, fun k q1 q2 => ?_, HI.out, HB.out⟩
          exact SortK.le_trans _ _ _ (SO.out.le_ SortK.le_refl q1 (show k ≤ (x + y) / 2 by omega) (by omega)) (SortK.le_lt _ _ CC.out)
        case measure => simp [intOf]; omega
      · have CC := Lib.hid hc
        rw [show decide (cmpN K.N (f ((x + y) / 2)).2 (f a).2 < 0) = false from decide_eq_false hc]
        clear hc
        go_wp2_with fail
        go_roundw
        case rel =>
          refine ⟨x, (x + y) / 2, rfl, by go_num, by omega, by omega, by omega, LO.out, fun k q1 q2 => ?_, HB.out⟩
          exact SortK.le_trans _ _ _ (SortK.le_of _ _ (by have := CC.out; omega)) (SO.out.le_ SortK.le_refl (by omega) (show (x + y) / 2 ≤ k by omega) q2)
        case measure => simp [intOf]; omega
    · obtain rfl : x = y := by omega
      have HA := Lib.hid hA
      clear hA L
      go_wp2_with fail
      go_loopw [11] (fun i wr => ∃ (k : Nat), i = .int .i64 k ∧ a ≤ k ∧ k ≤ x - 1 ∧ Lp K W (upTo f a k) wr) (fun i _ => x - (intOf i).toNat)
      case atStart => exact ⟨a, rfl, Nat.le_refl _, by omega, by rw [upTo_zero]; exact HA.out⟩
      case round =>
        obtain ⟨k, rfl, hk1, hk2, hA⟩ := hrel
        by_cases hlt : k < x - 1
        · have c1 := hA.bx.c1
          unfold SortK.swap at c1
          have R := swap_run HK.out hA.st (i := k) (j := k + 1) (by omega) (by omega)
          rw [Int.natCast_add, show ((1 : Nat) : Int) = 1 from rfl] at R
          have HB := hA.swap (i := k) (j := k + 1) (by omega) (by omega)
          rw [upTo_succ f hk1] at HB
          have HB := Lib.hid HB
          clear hA
          go_wp2_with fail
          go_roundw
          case rel => exact ⟨k + 1, by go_num, by omega, by omega, HB.out⟩
          case measure => simp [intOf]; omega
        · obtain rfl : k = x - 1 := by omega
          have HB := Lib.hid hA
          clear hA
          go_wp2_with fail
          (try simp only [Exit.inBlock, Exit.then]); refine bodyPost_ret (results_none rfl _ _ _) rfl ?_
          refine ⟨rfl, _, HB.out.rn, ?_, sorted_up H1.out hx hy SO.out LO.out HI.out⟩
          have := upTo_sw f (a := a) (lo := a) (hi := b) (Nat.le_refl _) (x - 1 - a) (by omega)
          rwa [show a + (x - 1 - a) = x - 1 by omega] at this

set_option maxRecDepth 100000 in
set_option maxHeartbeats 1000000 in
/-- symMerge, many against one. -/
theorem symMerge_last {f : Nat → Nat × J} {W : World} {a m b : Nat} (hK : K.Ok) (h : St K f W) (h0 : a + 1 < m) (h1 : b = m + 1) (h3 : b ≤ K.n) (hs : SortedOn K.le a m f) : Calls Tryz.prog 157 #[K.ls, .int .i64 a, .int .i64 m, .int .i64 b] W fun e w' => e = .returned (.tuple #[]) ∧ ∃ g, Rn K W g w' ∧ Sw a b f g ∧ SortedOn K.le a b g := by
  have hn := hK.n
  have L := Lib.hid fun (g : Nat → Nat × J) (w : World) (x y : Nat) (hs : Lp K W g w) (g1 : x < K.n) (g2 : y < K.n) => less_any hK hs.st g1 g2
  have HK := Lib.hid hK
  have HS := Lib.hid (Lp.start h); have H1 := Lib.hid h1; have H0 := Lib.hid h0; have H3 := Lib.hid h3; have SO := Lib.hid hs
  have h1a := Nat.le_of_eq h1; have h1b := Nat.le_of_eq h1.symm
  unfold SortK.ls at *
  clear h hK hs h1
  go_enter Tryz.func157, Tryz.ntmps157
  go_wp2_with fail
  generalize ((m : Int) - (a : Int) == 1) = q26
  generalize ((b : Int) - (m : Int) == 1) = q62
  go_loopw [12, 13] (fun i j wr => ∃ (x y : Nat), i = .int .i64 x ∧ j = .int .i64 y ∧ a ≤ x ∧ x ≤ y ∧ y ≤ m ∧ (∀ k, a ≤ k → k < x → K.le (f k) (f m)) ∧ (∀ k, y ≤ k → k < m → K.le (f m) (f k)) ∧ Lp K W f wr) (fun i j _ => (intOf j).toNat - (intOf i).toNat)
  case atStart => exact ⟨a, m, rfl, rfl, Nat.le_refl _, by omega, Nat.le_refl _, fun k q1 q2 => by omega, fun k q1 q2 => by omega, HS.out⟩
  case round =>
    obtain ⟨x, y, rfl, rfl, hx, hxy, hy, hlo, hhi, hA⟩ := hrel
    have LO := Lib.hid hlo; have HI := Lib.hid hhi
    clear hlo hhi
    have h3 := H3.out; have h0 := H0.out
    by_cases hlt : x < y
    · have c0 := hA.bx.c0
      unfold SortK.less at c0
      have C := Lib.hid (L.out f _ m ((x + y) / 2) hA (by omega) (by omega))
      have HA := Lib.hid hA
      clear hA L
      go_wp2_with fail
      refine C.out.mono ?_
      rintro e w1 ⟨rfl, hb⟩
      have HB := Lib.hid (HA.out.below hb (Nat.le_refl _))
      clear hb c0
      by_cases hc : cmpN K.N (f m).2 (f ((x + y) / 2)).2 < 0
      · have CC := Lib.hid hc
        rw [show decide (cmpN K.N (f m).2 (f ((x + y) / 2)).2 < 0) = true from decide_eq_true hc]
        clear hc
        go_wp2_with fail
        go_roundw
        case rel =>
          refine ⟨x, (x + y) / 2, rfl, by go_num, by omega, by omega, by omega, LO.out, fun k q1 q2 => ?_, HB.out⟩
          exact SortK.le_trans _ _ _ (SortK.le_lt _ _ CC.out) (SO.out.le_ SortK.le_refl (by omega) (show (x + y) / 2 ≤ k by omega) q2)
        case measure => simp [intOf]; omega
      · have CC := Lib.hid hc
        rw [show decide (cmpN K.N (f m).2 (f ((x + y) / 2)).2 < 0) = false from decide_eq_false hc]
        clear hc
        go_wp2_with fail
        go_roundw
        case rel =>
          refine ⟨(x + y) / 2 + 1, y, by go_num, rfl, by omega, by omega, hy, fun k q1 q2 => ?_, HI.out, HB.out⟩
          exact SortK.le_trans _ _ _ (SO.out.le_ SortK.le_refl q1 (show k ≤ (x + y) / 2 by omega) (by omega)) (SortK.le_of _ _ (by have := CC.out; omega))
        case measure => simp [intOf]; omega
    · obtain rfl : x = y := by omega
      have HA := Lib.hid hA
      clear hA L
      go_wp2_with fail
      go_loopw [15] (fun i wr => ∃ (k : Nat), i = .int .i64 k ∧ x ≤ k ∧ k ≤ m ∧ Lp K W (downTo f m k) wr) (fun i _ => (intOf i).toNat)
      case atStart => exact ⟨m, rfl, hy, Nat.le_refl _, by rw [downTo_zero]; exact HA.out⟩
      case round =>
        obtain ⟨k, rfl, hk1, hk2, hA⟩ := hrel
        by_cases hlt : x < k
        · have c1 := hA.bx.c1
          unfold SortK.swap at c1
          have R := swap_run HK.out hA.st (i := k) (j := k - 1) (by omega) (by omega)
          rw [Int.ofNat_sub (by omega), show ((1 : Nat) : Int) = 1 from rfl] at R
          have HB := hA.swap (i := k) (j := k - 1) (by omega) (by omega)
          have e := downTo_succ f (m := m) (k := k - 1) (by omega)
          rw [show k - 1 + 1 = k by omega] at e
          rw [e] at HB
          have HB := Lib.hid HB
          clear hA e
          go_wp2_with fail
          go_roundw
          case rel => exact ⟨k - 1, by go_num, by omega, by omega, HB.out⟩
          case measure => simp [intOf]; omega
        · obtain rfl : k = x := by omega
          have HB := Lib.hid hA
          clear hA
          go_wp2_with fail
          (try simp only [Exit.inBlock, Exit.then]); refine bodyPost_ret (results_none rfl _ _ _) rfl ?_
          refine ⟨rfl, _, HB.out.rn, ?_, by rw [H1.out]; exact sorted_down hx hy SO.out LO.out HI.out⟩
          have := downTo_sw f (m := m) (lo := a) (hi := b) (by omega) (m - k) (by omega) (by omega)
          rwa [show m - (m - k) = k by omega] at this
end
end Go.Proofs.YtofpdcjgakmlnaaGreatDoor

namespace Go.Proofs.YtofpdcjgakmlnaaGreatDoor
open Go.RowKit Go.Shelf Go.Lib

theorem rot_none {β : Type} (f : Nat → β) {lo m hi : Nat} (h : ¬ (lo < m ∧ m < hi)) (h1 : lo ≤ m) (h2 : m ≤ hi) : rot f lo m hi = f := by
  funext x
  unfold rot
  split
  · congr 1; omega
  · split
    · congr 1; omega
    · rfl
theorem merge_end {β : Type} {le : β → β → Prop} {a mid b : Nat} {g g2 g3 : Nat → β} (h1 : a ≤ mid) (h2 : mid ≤ b) (hp : ∀ i j, a ≤ i → i < mid → mid ≤ j → j < b → le (g i) (g j)) (sw1 : Sw a mid g g2) (so1 : SortedOn le a mid g2) (sw2 : Sw mid b g2 g3) (so2 : SortedOn le mid b g3) : Sw a b g g3 ∧ SortedOn le a b g3 := by
  refine ⟨(sw1.mono (Nat.le_refl _) h2).trans (sw2.mono h1 (Nat.le_refl _)), SortedOn.join (so1.same fun k _ hk => sw2.out (.inl hk)) so2 (pairs_sw hp ?_ ?_)⟩
  · intro k q1 q2
    obtain ⟨k', a1, a2, e⟩ := sw1.from_ k q1 q2
    exact ⟨k', a1, a2, (sw2.out (.inl q2)).trans e⟩
  · intro k q1 q2
    obtain ⟨k', a1, a2, e⟩ := sw2.from_ k q1 q2
    exact ⟨k', a1, a2, e.trans (sw1.out (.inr a1))⟩

section
variable {K : SortK}

set_option maxRecDepth 100000 in
set_option maxHeartbeats 4000000 in
/-- symMerge, many against many. -/
theorem symMerge_many {f : Nat → Nat × J} {W : World} {a m b : Nat} (hK : K.Ok) (h : St K f W) (h1 : a + 1 < m) (h2 : m + 1 < b) (h3 : b ≤ K.n) (hs1 : SortedOn K.le a m f) (hs2 : SortedOn K.le m b f)
    (IH : ∀ (a' m' b' : Nat) (f' : Nat → Nat × J) (W' : World), b' - a' < b - a → a' < m' → m' < b' → b' ≤ K.n → SortedOn K.le a' m' f' → SortedOn K.le m' b' f' → St K f' W' → Calls Tryz.prog 157 #[K.ls, .int .i64 a', .int .i64 m', .int .i64 b'] W' fun e w' => e = .returned (.tuple #[]) ∧ ∃ g, Rn K W' g w' ∧ Sw a' b' f' g ∧ SortedOn K.le a' b' g) : Calls Tryz.prog 157 #[K.ls, .int .i64 a, .int .i64 m, .int .i64 b] W fun e w' => e = .returned (.tuple #[]) ∧ ∃ g, Rn K W g w' ∧ Sw a b f g ∧ SortedOn K.le a b g := by
  have hn := hK.n
  have L := Lib.hid fun (g : Nat → Nat × J) (w : World) (x y : Nat) (hs : Lp K W g w) (g1 : x < K.n) (g2 : y < K.n) => less_any hK hs.st g1 g2
  have HK := Lib.hid hK
  have HS := Lib.hid (Lp.start h); have H1 := Lib.hid h1; have H2 := Lib.hid h2; have H3 := Lib.hid h3; have SO1 := Lib.hid hs1; have SO2 := Lib.hid hs2
  have RT := Lib.hid fun (w : World) (x e : Nat) (hl : Lp K W f w) (q1 : x < m) (q2 : m < e) (q3 : e ≤ K.n) => rotate_any hK hl.st q1 q2 q3
  have IR := Lib.hid fun (x y z : Nat) (g : Nat → Nat × J) (w : World) (hl : Lp K W g w) (q0 : z - x < b - a) (q1 : x < y) (q2 : y < z) (q3 : z ≤ K.n) (s1 : SortedOn K.le x y g) (s2 : SortedOn K.le y z g) => IH x y z g w q0 q1 q2 q3 s1 s2 hl.st
  have hr0 : ∃ s0 r0, ((a + b) / 2 < m → s0 = (a + b) / 2 + m - b ∧ r0 = (a + b) / 2) ∧ (¬ (a + b) / 2 < m → s0 = a ∧ r0 = m) := by
    by_cases hmm : (a + b) / 2 < m
    · exact ⟨_, _, fun _ => ⟨rfl, rfl⟩, fun h => absurd hmm h⟩
    · exact ⟨_, _, fun h => absurd h hmm, fun _ => ⟨rfl, rfl⟩⟩
  obtain ⟨s0, r0, hr0⟩ := hr0
  have HR := Lib.hid hr0
  unfold SortK.ls at *
  clear h hK hs1 hs2 IH hr0
  go_enter Tryz.func157, Tryz.ntmps157
  by_cases hmm : (a + b) / 2 < m
  all_goals
    go_wp2_with fail
    generalize ((m : Int) - (a : Int) == 1) = q26
    generalize ((b : Int) - (m : Int) == 1) = q62
    generalize (decide (((a : Int) + b) / 2 < m)) = q106
    go_loopw [18, 19] (fun i j wr => ∃ (x y : Nat), i = .int .i64 x ∧ j = .int .i64 y ∧ s0 ≤ x ∧ x ≤ y ∧ y ≤ r0 ∧ (∀ k, s0 ≤ k → k < x → K.le (f k) (f ((a + b) / 2 + m - 1 - k))) ∧ (∀ k, y ≤ k → k < r0 → K.le (f ((a + b) / 2 + m - 1 - k)) (f k)) ∧ Lp K W f wr) (fun i j _ => (intOf j).toNat - (intOf i).toNat)
    case atStart =>
      have hr := HR.out
      exact ⟨s0, r0, by go_num, by go_num, Nat.le_refl _, by omega, Nat.le_refl _, fun k q1 q2 => by omega, fun k q1 q2 => by omega, HS.out⟩
    case round =>
      obtain ⟨x, y, rfl, rfl, hx, hxy, hy, hlo, hhi, hA⟩ := hrel
      have LO := Lib.hid hlo; have HI := Lib.hid hhi
      clear hlo hhi
      have h3 := H3.out
      have b1 : a ≤ s0 := by have := HR.out; omega
      have b2 : (a + b) / 2 + m ≤ s0 + b := by have := HR.out; omega
      have b3 : r0 ≤ m := by have := HR.out; omega
      have b4 : r0 ≤ (a + b) / 2 := by have := HR.out; omega
      by_cases hlt : x < y
      · clear IR RT
        have c0 := hA.bx.c0
        unfold SortK.less at c0
        have C := L.out f _ ((a + b) / 2 + m - 1 - (x + y) / 2) ((x + y) / 2) hA (by omega) (by omega)
        rw [show (((a + b) / 2 + m - 1 - (x + y) / 2 : Nat) : Int) = ((a : Int) + b) / 2 + m - 1 - ((x : Int) + y) / 2 by omega] at C
        have C := Lib.hid C
        have HA := Lib.hid hA
        clear hA L
        go_wp2_with fail
        refine C.out.mono ?_
        rintro e w1 ⟨rfl, hb⟩
        have HB := Lib.hid (HA.out.below hb (Nat.le_refl _))
        clear hb c0
        by_cases hc : cmpN K.N (f ((a + b) / 2 + m - 1 - (x + y) / 2)).2 (f ((x + y) / 2)).2 < 0
        · have CC := Lib.hid hc
          rw [show decide (cmpN K.N (f ((a + b) / 2 + m - 1 - (x + y) / 2)).2 (f ((x + y) / 2)).2 < 0) = true from decide_eq_true hc]
          clear hc
          go_wp2_with fail
          go_roundw
          case rel =>
            refine ⟨x, (x + y) / 2, rfl, by go_num, hx, by omega, by omega, LO.out, fun k q1 q2 => ?_, HB.out⟩
            refine SortK.le_trans _ _ _ (SO2.out.le_ SortK.le_refl (show m ≤ (a + b) / 2 + m - 1 - k by omega) (show _ ≤ (a + b) / 2 + m - 1 - (x + y) / 2 by omega) (by omega)) (SortK.le_trans _ _ _ (SortK.le_lt _ _ CC.out) (SO1.out.le_ SortK.le_refl (by omega) (show (x + y) / 2 ≤ k by omega) (by omega)))
          case measure => simp [intOf]; omega
        · have CC := Lib.hid (SortK.le_of _ _ hc)
          rw [show decide (cmpN K.N (f ((a + b) / 2 + m - 1 - (x + y) / 2)).2 (f ((x + y) / 2)).2 < 0) = false from decide_eq_false hc]
          clear hc
          go_wp2_with fail
          go_roundw
          case rel =>
            refine ⟨(x + y) / 2 + 1, y, by go_num, rfl, by omega, by omega, hy, fun k q1 q2 => ?_, HI.out, HB.out⟩
            refine SortK.le_trans _ _ _ (SO1.out.le_ SortK.le_refl (by omega) (show k ≤ (x + y) / 2 by omega) (by omega)) (SortK.le_trans _ _ _ CC.out (SO2.out.le_ SortK.le_refl (show m ≤ (a + b) / 2 + m - 1 - (x + y) / 2 by omega) (show _ ≤ (a + b) / 2 + m - 1 - k by omega) (by omega)))
          case measure => simp [intOf]; omega
      · obtain rfl : x = y := by omega
        clear L hxy
        have hC : Cut K.le f a m b ((a + b) / 2) x := by
          refine ⟨by omega, by omega, by omega, by omega, fun c q1 q2 q3 => LO.out c ?_ q3, fun c q1 q2 q3 => HI.out c q1 ?_⟩
          · have := HR.out; omega
          · have := HR.out; omega
        have hcr := cut_rot SortK.le_refl SortK.le_trans (show a < m by omega) rfl SO1.out SO2.out hC
        clear hC
        have b5 : x ≤ m := by omega
        have b6 : x ≤ (a + b) / 2 := by omega
        have b7 : a ≤ x := by omega
        have b8 : (a + b) / 2 + m ≤ x + b := by omega
        clear b1 b2 b3 b4 hx hy hlt
        obtain ⟨g, hg⟩ : ∃ g, g = rot f x m ((a + b) / 2 + m - x) := ⟨_, rfl⟩
        rw [← hg] at hcr
        have hsw : Sw a b f g := by
          rw [hg]
          by_cases hq : x < m ∧ m < (a + b) / 2 + m - x
          · exact (rot_sw' f hq.1 hq.2).mono b7 (by omega)
          · rw [rot_none f hq b5 (by omega)]; exact .refl _
        have HG := Lib.hid hg
        have SW := Lib.hid hsw
        have CR := Lib.hid hcr
        have HA := Lib.hid hA
        clear hg hsw hcr hA
        by_cases t1 : x < m <;> by_cases t2 : x < (a + b) / 2 <;> by_cases t3 : a < x <;> by_cases t4 : (a + b) / 2 + m < x + b
        all_goals
          first
          | (have p1 : x < m := t1
             have p2 : x < (a + b) / 2 := t2
             have C := RT.out _ x ((a + b) / 2 + m - x) HA.out p1 (by omega) (by omega)
             rw [← HG.out, show (((a + b) / 2 + m - x : Nat) : Int) = ((a : Int) + b) / 2 + m - x by omega] at C
             have C := Lib.hid C
             have c0 := HA.out.bx.c0
             have c1 := HA.out.bx.c1
             go_wp2_with fail
             refine C.out.mono ?_
             rintro e1 w1 ⟨rfl, hr⟩
             have HB := Lib.hid (HA.out.call hr)
             clear hr c0 c1 C p1 p2)
          | (have e0 : g = f := HG.out.trans (rot_none f (by omega) b5 (by omega))
             have HB := HA.out
             rw [← e0] at HB
             have HB := Lib.hid HB
             clear e0)
          clear RT HA HG
          first
          | (have p1 : a < x := t3
             have p2 : x < (a + b) / 2 := t2
             have C := IR.out a x ((a + b) / 2) g _ HB.out (by omega) p1 p2 (by omega) CR.out.1 CR.out.2.1
             rw [show (((a + b) / 2 : Nat) : Int) = ((a : Int) + b) / 2 by omega] at C
             have C := Lib.hid C
             have c0 := HB.out.bx.c0
             have c1 := HB.out.bx.c1
             go_wp2_with fail
             refine C.out.mono ?_
             rintro e1 w1 ⟨rfl, g2, hr, sw1, so1⟩
             have HB2 := Lib.hid (HB.out.call hr)
             have SW1 := Lib.hid sw1
             have SB1 := Lib.hid so1
             clear hr c0 c1 C p1 p2 sw1 so1)
          | (obtain ⟨g2, hg2⟩ : ∃ g2, g2 = g := ⟨_, rfl⟩
             have HB2 := HB.out
             have sw1 : Sw a ((a + b) / 2) g g2 := by rw [hg2]; exact .refl _
             have so1 : SortedOn K.le a ((a + b) / 2) g2 := by
               rw [hg2]
               rcases Nat.lt_or_ge a x with q | q
               · have q2 : x = (a + b) / 2 := by omega
                 rw [← q2]; exact CR.out.1
               · have q2 : x = a := by omega
                 have := CR.out.2.1
                 rwa [q2] at this
             rw [← hg2] at HB2
             have HB2 := Lib.hid HB2
             have SW1 := Lib.hid sw1
             have SB1 := Lib.hid so1
             clear hg2 sw1 so1)
          clear HB
          first
          | (have p1 : x < m := t1
             have p2 : (a + b) / 2 + m < x + b := t4
             have C := IR.out ((a + b) / 2) ((a + b) / 2 + m - x) b g2 _ HB2.out (by omega) (by omega) (by omega) (by omega) (CR.out.2.2.1.same fun k q _ => SW1.out.out (.inr q)) (CR.out.2.2.2.1.same fun k q _ => SW1.out.out (.inr (by omega)))
             rw [show (((a + b) / 2 : Nat) : Int) = ((a : Int) + b) / 2 by omega, show (((a + b) / 2 + m - x : Nat) : Int) = ((a : Int) + b) / 2 + m - x by omega] at C
             have C := Lib.hid C
             have c0 := HB2.out.bx.c0
             have c1 := HB2.out.bx.c1
             go_wp2_with fail
             all_goals (try (exfalso; omega))
             refine C.out.mono ?_
             rintro e1 w1 ⟨rfl, g3, hr, sw2, so2⟩
             have HB3 := Lib.hid (HB2.out.call hr)
             have SW2 := Lib.hid sw2
             have SB2 := Lib.hid so2
             clear hr c0 c1 C p1 p2 sw2 so2)
          | (obtain ⟨g3, hg3⟩ : ∃ g3, g3 = g2 := ⟨_, rfl⟩
             have HB3 := HB2.out
             have sw2 : Sw ((a + b) / 2) b g2 g3 := by rw [hg3]; exact .refl _
             have so2 : SortedOn K.le ((a + b) / 2) b g3 := by
               rw [hg3]
               refine SortedOn.same (f := g) ?_ fun k q _ => SW1.out.out (.inr q)
               rcases Nat.lt_or_ge x m with q | q
               · have q2 : (a + b) / 2 + m - x = b := by omega
                 have := CR.out.2.2.1
                 rwa [q2] at this
               · have q2 : (a + b) / 2 + m - x = (a + b) / 2 := by omega
                 have := CR.out.2.2.2.1
                 rwa [q2] at this
             rw [← hg3] at HB3
             have HB3 := Lib.hid HB3
             have SW2 := Lib.hid sw2
             have SB2 := Lib.hid so2
             clear hg3 sw2 so2)
          clear HB2
          go_wp2_with fail
          all_goals
            go_end0
            have E := merge_end (by omega) (by omega) CR.out.2.2.2.2 SW1.out SB1.out SW2.out SB2.out
            exact ⟨rfl, g3, HB3.out.rn, SW.out.trans E.1, E.2⟩

/-- symMerge. -/
theorem symMerge_any (hK : K.Ok) : ∀ (s a m b : Nat) (f : Nat → Nat × J) (W : World), b - a ≤ s → a < m → m < b → b ≤ K.n → SortedOn K.le a m f → SortedOn K.le m b f → St K f W → Calls Tryz.prog 157 #[K.ls, .int .i64 a, .int .i64 m, .int .i64 b] W fun e w' => e = .returned (.tuple #[]) ∧ ∃ g, Rn K W g w' ∧ Sw a b f g ∧ SortedOn K.le a b g
  | 0, a, m, b, _, _, h, h1, h2, _, _, _, _ => by omega
  | s + 1, a, m, b, f, W, h, h1, h2, h3, s1, s2, hs => by
    by_cases q1 : m = a + 1
    · exact symMerge_one hK hs q1 h2 h3 s2
    · by_cases q2 : b = m + 1
      · exact symMerge_last hK hs (by omega) q2 h3 s1
      · exact symMerge_many hK hs (by omega) (by omega) h3 s1 s2 fun a' m' b' f' W' c1 c2 c3 c4 c5 c6 c7 => symMerge_any hK s a' m' b' f' W' (by omega) c2 c3 c4 c5 c6 c7
end
end Go.Proofs.YtofpdcjgakmlnaaGreatDoor

namespace Go.Proofs.YtofpdcjgakmlnaaGreatDoor
open Go.RowKit Go.Shelf Go.Lib

section
variable {β : Type} {le : β → β → Prop}
/-- The blocks before x are sorted, each. -/
def Blks (le : β → β → Prop) (s n x : Nat) (g : Nat → β) : Prop := ∀ u, u * s < x → SortedOn le (u * s) (min (u * s + s) n) g
/-- The blocks from x on are sorted, each. -/
def Rest (le : β → β → Prop) (s n x : Nat) (g : Nat → β) : Prop := ∀ u, x ≤ u * s → SortedOn le (u * s) (min (u * s + s) n) g
theorem blks_step {s n x y q : Nat} {g g' : Nat → β} (hx : x = q * s) (hb : Blks le s n x g) (hs : Sw x y g g') (h : SortedOn le x (min (x + s) n) g') : Blks le s n (x + s) g' := by
  intro u hu
  rcases Nat.lt_trichotomy u q with h1 | h1 | h1
  · have h2 : (u + 1) * s ≤ q * s := Nat.mul_le_mul_right s h1
    rw [Nat.succ_mul, ← hx] at h2
    by_cases hs0 : s = 0
    · subst hs0; exact SortedOn.short _ (by omega)
    · exact (hb u (by omega)).same fun k _ hk => hs.out (.inl (by omega))
  · rw [h1, ← hx]; exact h
  · have h2 : (q + 1) * s ≤ u * s := Nat.mul_le_mul_right s h1
    rw [Nat.succ_mul, ← hx] at h2
    omega
theorem blks_rest {s n x x' : Nat} {g : Nat → β} (h : Blks le s n x g) (hn : n ≤ x) : Rest le s n x' g := fun u _ => by
  rcases Nat.lt_or_ge (u * s) x with h1 | h1
  · exact h u h1
  · exact SortedOn.short _ (by omega)
theorem rest_step {s n x y : Nat} {g g' : Nat → β} (h : Rest le s n x g) (hs : Sw x y g g') (hxy : x ≤ y) : Rest le s n y g' := fun u hu =>
  (h u (by omega)).same fun k h1 _ => hs.out (.inr (by omega))
theorem rest_two {s n x q : Nat} {g : Nat → β} (hx : x = q * (2 * s)) (h : Rest le s n x g) : SortedOn le x (min (x + s) n) g ∧ SortedOn le (x + s) (min (x + s + s) n) g := by
  have e1 : (2 * q) * s = x := by rw [hx, Nat.mul_comm 2 q, Nat.mul_assoc]
  have e2 : (2 * q + 1) * s = x + s := by rw [Nat.succ_mul, e1]
  have h1 := h (2 * q) (by omega)
  have h2 := h (2 * q + 1) (by omega)
  rw [e1] at h1; rw [e2] at h2
  exact ⟨h1, h2⟩
theorem rest_zero {s n : Nat} {g : Nat → β} (h : Rest le s n 0 g) (hs : n ≤ s) : SortedOn le 0 n g := by
  have := h 0 (by omega)
  rw [Nat.zero_mul] at this
  exact this.sub (Nat.le_refl _) (by omega)
end

section
variable {K : SortK}

set_option maxRecDepth 100000 in
set_option maxHeartbeats 2000000 in
/-- stable. -/
theorem stable_any {f : Nat → Nat × J} {W : World} (hK : K.Ok) (h : St K f W) : Calls Tryz.prog 122 #[K.ls, .int .i64 K.n] W fun e w' => e = .returned (.tuple #[]) ∧ ∃ g, Rn K W g w' ∧ Sw 0 K.n f g ∧ SortedOn K.le 0 K.n g := by
  have hn := hK.n
  have IN := Lib.hid fun (g : Nat → Nat × J) (w : World) (x y : Nat) (hs : Lp K W g w) (g1 : x ≤ y) (g2 : y ≤ K.n) => insF_any hK hs.st g1 g2
  have SM := Lib.hid fun (x y z : Nat) (g : Nat → Nat × J) (w : World) (hs : Lp K W g w) (g1 : x < y) (g2 : y < z) (g3 : z ≤ K.n) (s1 : SortedOn K.le x y g) (s2 : SortedOn K.le y z g) => symMerge_any hK (z - x) x y z g w (Nat.le_refl _) g1 g2 g3 s1 s2 hs.st
  have HS := Lib.hid (Lp.start h)
  unfold SortK.ls at *
  clear h hK
  generalize hN : K.n = n at *
  have HN := Lib.hid hN
  clear hN
  go_enter Tryz.func122, Tryz.ntmps122
  go_wp2_with fail
  go_loopw [5, 6] (fun i j wr => ∃ (q x y : Nat) (g : Nat → Nat × J), i = .int .i64 x ∧ j = .int .i64 y ∧ x = q * 20 ∧ y = x + 20 ∧ x ≤ n ∧ Lp K W g wr ∧ Sw 0 n f g ∧ Blks K.le 20 n x g) (fun i _ _ => n - (intOf i).toNat)
  case atStart => exact ⟨0, 0, 20, f, rfl, rfl, rfl, rfl, Nat.zero_le _, HS.out, .refl _, fun u hu => by omega⟩
  case round =>
    obtain ⟨q, x, y, g, rfl, rfl, hx, hy, hxn, hA, hsw, hbl⟩ := hrel
    have HA := Lib.hid hA; have SW := Lib.hid hsw; have BL := Lib.hid hbl; have HX := Lib.hid hx
    have hy1 := Nat.le_of_eq hy; have hy2 := Nat.le_of_eq hy.symm
    have c0 := hA.bx.c0; have c1 := hA.bx.c1
    clear hA hsw hbl hx hy
    by_cases hlt : y ≤ n
    · have C := Lib.hid (IN.out g _ x y HA.out (by omega) hlt)
      clear IN SM
      go_wp2_with fail
      refine C.out.mono ?_
      rintro e w1 ⟨rfl, g2, hr, sw, so⟩
      have HB := Lib.hid (HA.out.call hr)
      have SW2 := Lib.hid sw
      have SO2 := Lib.hid so
      clear hr sw so c0 c1
      go_wp2_with fail
      go_roundw
      case rel => 
        have e : y = x + 20 := by omega
        refine ⟨q + 1, y, y + 20, g2, rfl, by go_num, by have := HX.out; omega, rfl, hlt, HB.out, SW.out.trans (SW2.out.mono (by omega) hlt), ?_⟩
        rw [e]
        exact blks_step HX.out BL.out SW2.out (SO2.out.sub (Nat.le_refl _) (by omega))
      case measure => simp [intOf]; omega
    · have C := Lib.hid (IN.out g _ x n HA.out (by omega) (Nat.le_refl _))
      clear IN
      go_wp2_with fail
      refine C.out.mono ?_
      rintro e w1 ⟨rfl, g2, hr, sw, so⟩
      have HB := Lib.hid (HA.out.call hr)
      have SW2 := Lib.hid (SW.out.trans (sw.mono (Nat.zero_le _) (Nat.le_refl _)))
      have RS := Lib.hid (blks_rest (x' := 0) (blks_step HX.out BL.out sw (so.sub (Nat.le_refl _) (by omega))) (show n ≤ x + 20 by omega))
      clear hr sw so c0 c1 C HA SW BL
      go_wp2_with fail
      go_loopw [4] (fun i wr => ∃ (s : Nat) (g : Nat → Nat × J), i = .int .i64 s ∧ 0 < s ∧ (s < 2 * n ∨ s = 20) ∧ Lp K W g wr ∧ Sw 0 n f g ∧ Rest K.le s n 0 g) (fun i _ => n - (intOf i).toNat)
      case atStart => exact ⟨20, g2, rfl, by omega, .inr rfl, HB.out, SW2.out, RS.out⟩
      case round =>
        obtain ⟨s, g, rfl, hs0, hs1, hA, hsw, hrs⟩ := hrel
        have SW := Lib.hid hsw
        have RS0 := Lib.hid hrs
        clear hsw hrs HB SW2 RS
        by_cases hsn : s < n
        · have HA := Lib.hid hA
          clear hA hs1
          go_wp2_with fail
          go_loopw [5, 6] (fun i j wr => ∃ (q x y : Nat) (g' : Nat → Nat × J), i = .int .i64 x ∧ j = .int .i64 y ∧ x = q * (2 * s) ∧ y = x + 2 * s ∧ x ≤ n ∧ Lp K W g' wr ∧ Sw 0 n f g' ∧ Blks K.le (2 * s) n x g' ∧ Rest K.le s n x g') (fun i _ _ => n - (intOf i).toNat)
          case atStart => exact ⟨0, 0, 2 * s, g, rfl, by go_num, by simp, by omega, Nat.zero_le _, HA.out, SW.out, fun u hu => by omega, RS0.out⟩
          case round =>
            obtain ⟨q, x, y, g', rfl, rfl, hx, hy, hxn, hA, hsw, hbl, hrs⟩ := hrel
            have SW := Lib.hid hsw; have BL := Lib.hid hbl; have HX := Lib.hid hx; have RS := Lib.hid hrs
            have hy1 := Nat.le_of_eq hy; have hy2 := Nat.le_of_eq hy.symm
            have c0 := hA.bx.c0; have c1 := hA.bx.c1
            have TW := Lib.hid (rest_two hx hrs)
            have HA := Lib.hid hA
            clear hA hsw hbl hx hy hrs
            by_cases hlt : y ≤ n
            · have C := SM.out x (x + s) y g' _ HA.out (by omega) (by omega) hlt (TW.out.1.sub (Nat.le_refl _) (by omega)) (TW.out.2.sub (Nat.le_refl _) (by omega))
              rw [Int.natCast_add] at C
              have C := Lib.hid C
              clear SM TW
              go_wp2_with fail
              refine C.out.mono ?_
              rintro e w1 ⟨rfl, g2, hr, sw, so⟩
              have HB := Lib.hid (HA.out.call hr)
              have SW2 := Lib.hid sw
              have SO2 := Lib.hid so
              clear hr sw so c0 c1 C HA
              go_wp2_with fail
              go_roundw
              case rel =>
                have e : y = x + 2 * s := by omega
                refine ⟨q + 1, y, y + 2 * s, g2, rfl, by go_num, by rw [Nat.succ_mul, ← HX.out]; exact e, rfl, hlt, HB.out, SW.out.trans (SW2.out.mono (by omega) hlt), ?_, rest_step RS.out SW2.out (by omega)⟩
                rw [e]
                exact blks_step HX.out BL.out SW2.out (SO2.out.sub (Nat.le_refl _) (by omega))
              case measure => simp [intOf]; omega
            · by_cases hmn : x + s < n
              · have C := SM.out x (x + s) n g' _ HA.out (by omega) (by omega) (Nat.le_refl _) (TW.out.1.sub (Nat.le_refl _) (by omega)) (TW.out.2.sub (Nat.le_refl _) (by omega))
                rw [Int.natCast_add] at C
                have C := Lib.hid C
                clear SM TW
                go_wp2_with fail
                refine C.out.mono ?_
                rintro e w1 ⟨rfl, g2, hr, sw, so⟩
                have HB := Lib.hid (HA.out.call hr)
                have SW2 := Lib.hid sw
                have SO2 := Lib.hid so
                clear hr sw so c0 c1 C HA
                go_wp2_with fail
                go_roundw
                case rel =>
                  refine ⟨2 * s, g2, by go_num, by omega, .inl (by omega), HB.out, SW.out.trans (SW2.out.mono (by omega) (Nat.le_refl _)), ?_⟩
                  exact blks_rest (blks_step HX.out BL.out SW2.out (SO2.out.sub (Nat.le_refl _) (by omega))) (show n ≤ x + 2 * s by omega)
                case measure => simp [intOf]; omega
              · clear SM
                go_wp2_with fail
                go_roundw
                case rel =>
                  refine ⟨2 * s, g', by go_num, by omega, .inl (by omega), HA.out, SW.out, ?_⟩
                  exact blks_rest (blks_step HX.out BL.out (.refl (b := x) _) (TW.out.1.sub (Nat.le_refl _) (by omega))) (show n ≤ x + 2 * s by omega)
                case measure => simp [intOf]; omega
        · clear SM
          have HA := Lib.hid hA
          clear hA
          go_wp2_with fail
          go_end0
          exact ⟨rfl, g, HA.out.rn, SW.out, rest_zero RS0.out (by omega)⟩
end
end Go.Proofs.YtofpdcjgakmlnaaGreatDoor
