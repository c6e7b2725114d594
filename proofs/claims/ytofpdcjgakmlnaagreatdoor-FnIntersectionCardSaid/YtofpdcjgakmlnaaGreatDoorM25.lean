/- A part of the proof. A part of the proof. -/
import Derived.Test.YtofpdcjgakmlnaaGreatDoorM24
import Derived.Test.YtofpdcjgakmlnaaGreatDoorShelfS
import Derived.Lib.QuietBelow
import Derived.Deep.RegionWith
import Derived.LoopTactic
namespace Go.Proofs.YtofpdcjgakmlnaaGreatDoor
open Go.RowKit Go.Shelf Go.Lib

noncomputable def infoRow : TypeInfo := (Tryz.prog.info? 108).get (by kernel_rfl)
noncomputable def infoPtr : TypeInfo := (Tryz.prog.info? 111).get (by kernel_rfl)
theorem swapK_many (n : Nat) (h2 : 2 ≤ n) : Lib.swapperK n infoPtr 22 = 3 := by
  have a : infoPtr.hasPointers = true := by kernel_rfl
  have b : infoPtr.bytes = 8 := by kernel_rfl
  have c : (n == 0) = false := by simp; omega
  have d : (n == 1) = false := by simp; omega
  simp [Lib.swapperK, a, b, c, d]

theorem kindPtr (w : World) : (Extern.Rtype.kind 111).run Tryz.prog w = .ok 22 w := by kernel_rfl

section
variable {K : SortK}
/-- sort.SliceStable over items, two or more. -/
theorem sliceStable_any {f : Nat → Nat × J} {w : World} (hK : K.Ok) (hsf : K.sf = 149) (h : St K f w) (h2 : 2 ≤ K.n) :
    Calls Tryz.prog 92 #[.iface 108 (.slice (some ⟨K.R, 0, none⟩) K.n K.cap), K.less] w fun e w' => e = .returned (.tuple #[]) ∧ ∃ g, Rn K w g w' ∧ Sw 0 K.n f g ∧ SortedOn K.le 0 K.n g := by
  have hn := hK.n
  have hkk := swapK_many K.n h2
  refine Any.sort_SliceStable_of_stable Tryz.stableT 108 111 infoRow infoPtr (by kernel_rfl) (by kernel_rfl) (by kernel_rfl) (by kernel_rfl) 22 kindPtr (some ⟨K.R, 0, none⟩) K.n K.cap (by omega) 149 (by rw [hkk]; kernel_rfl) (.func 93) #[] _ w _ ?_
  have hst : St K f (stableWorld Tryz.prog Tryz.stableT_ren 108 (some ⟨K.R, 0, none⟩) K.n K.cap w) := h.below (((Below.refl _ _).alloc (Nat.le_refl _) _).alloc (by simp) _)
  have hp := stable_any hK hst
  have hB : sliceBound Tryz.prog 111 infoPtr 22 (some ⟨K.R, 0, none⟩) K.n K.cap = #[.slice (some ⟨K.R, 0, none⟩) K.n K.cap, K.th] := by
    unfold sliceBound; rw [hkk, hK.th]; rfl
  rw [hB]
  unfold SortK.ls SortK.less SortK.swap at hp
  rw [hsf] at hp
  refine hp.mono ?_
  rintro e w' ⟨rfl, g, hr, sw, so⟩
  exact ⟨rfl, g, ⟨hr.st, ((World.grownBy_alloc _ _ _).trans (World.grownBy_alloc _ _ _)).trans hr.gr⟩, sw, so⟩
end

/-- sort.SliceStable over none or one. -/
theorem sliceStable_few (p : Option Addr) (n c : Nat) (hn : n ≤ 1) (lf : Fn) (la lb : Array Value) (w : World) :
    Calls Tryz.prog 92 #[.iface 108 (.slice p n c), .func lf la lb] w fun e w' => e = .returned (.tuple #[]) ∧ Below w.heap.size w w' := by
  have hf : Tryz.prog.funcs.findIdx? (·.name == "internal/reflectlite" ++ ".Swapper$" ++ toString (swapperK n infoPtr 22)) = some (if n = 0 then 147 else 148) := by
    rcases Nat.lt_or_ge 0 n with h | h
    · obtain rfl : n = 1 := by omega
      kernel_rfl
    · obtain rfl : n = 0 := by omega
      kernel_rfl
  refine (Any.sort_SliceStable_tiny Tryz.stableT 108 111 infoRow infoPtr (by kernel_rfl) (by kernel_rfl) (by kernel_rfl) (by kernel_rfl) 22 kindPtr p n c hn _ hf lf la lb w).mono ?_
  rintro e w' ⟨rfl, os, rfl⟩
  exact ⟨rfl, below_regrown w w.drawn os⟩
end Go.Proofs.YtofpdcjgakmlnaaGreatDoor

namespace Go.Proofs.YtofpdcjgakmlnaaGreatDoor
open Go.RowKit Go.Shelf Go.Lib

theorem makeItems (n : Nat) (hn : n ≤ 400) (w : World) :
    (Instr.makeSlice 108 (.int .i64 (n : Int)) (.int .i64 (n : Int))).run Tryz.prog w = .ok (.slice (some ⟨w.heap.size, 0, none⟩) n n) (w.alloc (.cells (madeCells #[.pointer none] n) 111)) :=
  run_make_row' 108 111 (.pointer none) 8 Tryz.underlying108 (by kernel_rfl) rfl .i64 .i64 n (by omega) (by omega) w
def itRow (h0 k n : Nat) : List Value := (List.range n).map fun i => if i < k then ptrOf (h0 + i) else .pointer none
theorem itRow_zero (h0 n : Nat) : (itRow h0 0 n).toArray = madeCells #[.pointer none] n := by
  unfold madeCells itRow
  apply Array.ext
  · simp
  · intro i h1 h2; simp [Nat.mod_one]
theorem itRow_len (h0 k n : Nat) : (itRow h0 k n).length = n := by simp [itRow]
theorem itRow_set (h0 k n : Nat) : (itRow h0 k n).set k (ptrOf (h0 + k)) = itRow h0 (k + 1) n := by
  apply List.ext_getElem
  · simp [itRow]
  · intro i h1 h2
    simp only [itRow, List.getElem_set, List.getElem_map, List.getElem_range]
    split
    · rename_i h; subst h; rw [if_pos (by omega)]
    · split
      · rw [if_pos (by omega)]
      · rw [if_neg (by omega)]
theorem itRow_all (h0 n : Nat) (f : Nat → Nat × J) (hf : ∀ i, (f i).1 = h0 + i) : itRow h0 n n = rowOf f n := by
  unfold itRow rowOf
  refine List.map_congr_left fun i hi => ?_
  rw [if_pos (List.mem_range.1 hi), hf]

/-- One item more. -/
theorem item_step {w wr : World} {n k : Nat} {X : Nat → Value} {V : Value} (hV : X k = V) (hb : Below w.heap.size w wr) (hsz : wr.heap.size = w.heap.size + 2 + k) (hA : Arr wr w.heap.size 111 (itRow (w.heap.size + 2) k n))
    (hc : wr.cell? ⟨w.heap.size + 1, 0, none⟩ = some (.slice (some ⟨w.heap.size, 0, none⟩) n n)) (hit : ∀ i, i < k → wr.heap[w.heap.size + 2 + i]? = some (.cells #[X i, X i] 113 (0, 0))) :
    Below w.heap.size w ((wr.alloc (.cells #[V, V] 113)).setCell ⟨w.heap.size, k, none⟩ (.pointer (some ⟨w.heap.size + 2 + k, 0, none⟩))).drew ∧
    ((wr.alloc (.cells #[V, V] 113)).setCell ⟨w.heap.size, k, none⟩ (.pointer (some ⟨w.heap.size + 2 + k, 0, none⟩))).drew.heap.size = w.heap.size + 2 + (k + 1) ∧
    Arr ((wr.alloc (.cells #[V, V] 113)).setCell ⟨w.heap.size, k, none⟩ (.pointer (some ⟨w.heap.size + 2 + k, 0, none⟩))).drew w.heap.size 111 (itRow (w.heap.size + 2) (k + 1) n) ∧
    ((wr.alloc (.cells #[V, V] 113)).setCell ⟨w.heap.size, k, none⟩ (.pointer (some ⟨w.heap.size + 2 + k, 0, none⟩))).drew.cell? ⟨w.heap.size + 1, 0, none⟩ = some (.slice (some ⟨w.heap.size, 0, none⟩) n n) ∧
    ∀ i, i < k + 1 → ((wr.alloc (.cells #[V, V] 113)).setCell ⟨w.heap.size, k, none⟩ (.pointer (some ⟨w.heap.size + 2 + k, 0, none⟩))).drew.heap[w.heap.size + 2 + i]? = some (.cells #[X i, X i] 113 (0, 0)) := by
  have bA : Below wr.heap.size wr (wr.alloc (.cells #[V, V] 113)) := (Below.refl _ _).alloc (Nat.le_refl _) _
  refine ⟨?_, ?_, ?_, ?_, fun i hi => ?_⟩
  · exact ((hb.trans (bA.mono (by omega))).setCell (Nat.le_refl _) _).drew
  · show ((wr.alloc _).setCell _ _).heap.size = _
    simp [hsz]; omega
  · have := (hA.below bA (by omega)).set k (ptrOf (w.heap.size + 2 + k))
    rw [itRow_set] at this
    exact this
  · refine (World.cell?_of_block (w := wr) (a := ⟨w.heap.size + 1, 0, none⟩) ?_).trans hc
    refine (Below.heap_setCell _ _ _ _ (by show w.heap.size + 1 ≠ w.heap.size; omega)).trans ?_
    exact bA.block _ (by show w.heap.size + 1 < _; omega)
  · refine (Below.heap_setCell _ _ _ _ (by show w.heap.size + 2 + i ≠ w.heap.size; omega)).trans ?_
    rcases Nat.lt_or_ge i k with h | h
    · exact (bA.block _ (by omega)).trans (hit i h)
    · obtain rfl : i = k := by omega
      rw [← hsz, hV]
      exact heap_alloc_at _ _

/-- What sortItems leaves: a row of items, in order. -/
def Sorted (N : Nat) (S : Nat → Prop) (l : List J) (lo R : Nat) (g : Nat → Nat × J) (w : World) : Prop :=
  w.heap[R]? = some (.cells (rowOf g l.length).toArray 111 (0, 0)) ∧ (∀ i, i < l.length → SItem w S (g i)) ∧ ((List.range l.length).map fun i => (g i).2).Perm l ∧ SortedOn (fun p q : Nat × J => cmpN N p.2 q.2 ≤ 0) 0 l.length g ∧ lo ≤ R ∧ R < w.heap.size ∧ ∀ i, i < l.length → lo ≤ (g i).1

/-- The call of SliceStable that sortItems makes. -/
theorem stable_items {N : Nat} {l : List J} {S : Nat → Prop} {X : Nat → Value} {w wr : World} (hl : l.length ≤ 400) (hN : ∀ x ∈ l, SizeOf.sizeOf x ≤ N) (hok : ∀ x ∈ l, JOK x) (hS : ∀ b, S b → b < w.heap.size) (hX : ∀ i (_ : i < l.length), JR w S l[i] (X i))
    (hb : Below w.heap.size w wr) (hsz : wr.heap.size = w.heap.size + 2 + l.length) (hA : Arr wr w.heap.size 111 (itRow (w.heap.size + 2) l.length l.length))
    (hc : wr.cell? ⟨w.heap.size + 1, 0, none⟩ = some (.slice (some ⟨w.heap.size, 0, none⟩) l.length l.length)) (hit : ∀ i, i < l.length → wr.heap[w.heap.size + 2 + i]? = some (.cells #[X i, X i] 113 (0, 0))) :
    Calls Tryz.prog 92 #[.iface 108 (.slice (some ⟨w.heap.size, 0, none⟩) l.length l.length), .func (.func 93) #[] #[.pointer (some ⟨w.heap.size + 1, 0, none⟩)]] wr fun e w' => e = .returned (.tuple #[]) ∧ (∃ g, Sorted N S l w.heap.size w.heap.size g w') ∧ Below w.heap.size w w' ∧ w'.cell? ⟨w.heap.size + 1, 0, none⟩ = some (.slice (some ⟨w.heap.size, 0, none⟩) l.length l.length) := by
  obtain ⟨f, hf⟩ : ∃ f : Nat → Nat × J, f = fun i => (w.heap.size + 2 + i, l.getD i .null) := ⟨_, rfl⟩
  obtain ⟨K, hK⟩ : ∃ K : SortK, K = ⟨w.heap.size, l.length, l.length, w.heap.size + 1, 149, N, typeHandle Tryz.prog 111, S, wr⟩ := ⟨_, rfl⟩
  have hok' : K.Ok := by
    subst hK
    refine ⟨by show l.length ≤ _; omega, hc, by show w.heap.size + 1 ≠ w.heap.size; omega, by show w.heap.size + 1 < wr.heap.size; omega, fun b h => ?_, rfl, true, fun args W => ?_⟩
    · have := hS b h
      exact ⟨by show b < wr.heap.size; omega, by show b ≠ w.heap.size; omega⟩
    · exact run_callFunc_extern Tryz.func149 (by kernel_rfl) (by kernel_rfl) (by kernel_rfl) (e := Extern.ReflectliteSwapper.swap true) (by kernel_rfl) args W
  have hfi : ∀ i (h : i < l.length), f i = (w.heap.size + 2 + i, l[i]) := fun i h => by rw [hf]; simp [List.getD_eq_getElem?_getD, h]
  have hst : St K f wr := by
    subst hK
    refine ⟨?_, ⟨rfl, rfl, rfl, Nat.le_refl _, fun _ _ _ => rfl⟩, fun i hi => ?_⟩
    · rw [← itRow_all (w.heap.size + 2) l.length f (fun i => by rw [hf])]; exact hA
    · have hi : i < l.length := hi
      rw [hfi i hi]
      have hj := (hX i hi).go (w' := wr) (fun b h => hb.block b (hS b h)) (fun _ h => h)
      exact ⟨⟨X i, X i, hit i hi, hj, hj⟩, by show w.heap.size + 2 + i ≠ w.heap.size; omega, hok _ (List.getElem_mem hi), hN _ (List.getElem_mem hi)⟩
  have fin : ∀ (g : Nat → Nat × J) (w' : World), St K g w' → Sw 0 l.length f g → SortedOn K.le 0 l.length g → (∃ g, Sorted N S l w.heap.size w.heap.size g w') ∧ Below w.heap.size w w' ∧ w'.cell? ⟨w.heap.size + 1, 0, none⟩ = some (.slice (some ⟨w.heap.size, 0, none⟩) l.length l.length) := by
    intro g w' hs hsw hso
    have hlt := hs.lt
    subst hK
    have hgr : wr.grownBy w' (some w.heap.size) := hs.grow
    refine ⟨⟨g, hs.row, fun i hi => ?_, ?_, hso, Nat.le_refl _, hlt, fun i hi => ?_⟩, ?_, ?_⟩
    · obtain ⟨h1, h2, _⟩ := hs.item i hi
      exact h1.go hs.grow h2 hok'.S
    · have h1 := (hsw.perm (Nat.le_refl _)).map (·.2)
      rw [List.map_map, List.map_map] at h1
      have e : (List.range l.length).map ((·.2) ∘ f) = l := by
        apply List.ext_getElem
        · simp
        · intro i h1 h2; simp [hfi i h2]
      rw [e] at h1
      exact h1
    · obtain ⟨k, _, hk, e⟩ := hsw.from_ i (Nat.zero_le _) hi
      rw [e, hf]; show w.heap.size ≤ w.heap.size + 2 + k; omega
    · exact hb.grown hgr (by omega) (fun k e => by cases e; exact Nat.le_refl _)
    · exact (World.cell?_of_block (a := ⟨w.heap.size + 1, 0, none⟩) (hgr.block _ (by show w.heap.size + 1 < wr.heap.size; omega) (fun e => absurd (Option.some.inj e) (by show w.heap.size + 1 ≠ w.heap.size; omega)))).trans hc
  rcases Nat.lt_or_ge l.length 2 with h2 | h2
  · refine (sliceStable_few _ _ _ (by omega) _ _ _ _).mono ?_
    rintro e w' ⟨rfl, hb'⟩
    exact ⟨rfl, fin f w' (hst.below hb') (.refl _) (.short _ (by omega))⟩
  · have := sliceStable_any hok' (by rw [hK]) hst (by rw [hK]; exact h2)
    have hls : K.less = .func (.func 93) #[] #[.pointer (some ⟨w.heap.size + 1, 0, none⟩)] := by rw [hK]; rfl
    rw [hls] at this
    have e1 : K.R = w.heap.size := by rw [hK]
    have e2 : K.n = l.length := by rw [hK]
    have e3 : K.cap = l.length := by rw [hK]
    rw [e1, e2, e3] at this
    refine this.mono ?_
    rintro e w' ⟨rfl, g, hr, hsw, hso⟩
    exact ⟨rfl, fin g w' hr.st hsw hso⟩

set_option maxRecDepth 100000 in
set_option maxHeartbeats 2000000 in
theorem sortItems_any (N : Nat) (l : List J) (nm : ByteArray) (a : Option Addr) (cap : Nat) (w : World) (S : Nat → Prop) (hl : l.length ≤ 400) (hN : ∀ x ∈ l, SizeOf.sizeOf x ≤ N) (hok : ∀ x ∈ l, JOK x) (hS : ∀ b, S b → b < w.heap.size)
    (helem : ∀ i (_ : i < l.length), ∃ b o x, a = some ⟨b, o, none⟩ ∧ S b ∧ w.cell? ⟨b, o + i, none⟩ = some x ∧ JR w S l[i] x) :
    Calls Tryz.prog 60 #[.string nm, .iface 48 (.slice a l.length cap), .iface 48 (.slice a l.length cap)] w fun e w' => (∃ R g, e = .returned (.tuple #[.slice (some ⟨R, 0, none⟩) l.length l.length, .nilIface]) ∧ Sorted N S l w.heap.size R g w') ∧ Below w.heap.size w w' := by
  have hX : ∃ X : Nat → Value, ∀ i (_ : i < l.length), ∃ b o, a = some ⟨b, o, none⟩ ∧ S b ∧ w.cell? ⟨b, o + i, none⟩ = some (X i) ∧ JR w S l[i] (X i) := by
    refine ⟨fun i => if h : i < l.length then (helem i h).choose_spec.choose_spec.choose else .nilIface, fun i hi => ?_⟩
    have := (helem i hi).choose_spec.choose_spec.choose_spec
    dsimp only
    rw [dif_pos hi]
    exact ⟨_, _, this⟩
  obtain ⟨X, hX⟩ := hX
  have has := fun w' => as_anys_anys (.slice a l.length cap) w'
  have hmk := makeItems l.length hl
  have he := Lib.hid hX; have HS := Lib.hid hS; have HN := Lib.hid hN; have HOK := Lib.hid hok
  clear hX helem hS hN hok
  go_enter Tryz.func60, Tryz.ntmps60
  go_wp2_with (first | simp only [has] | simp only [hmk])
  go_loopw [66] (fun i wr => ∃ k : Nat, i = .int .i64 k ∧ k ≤ l.length ∧ Below w.heap.size w wr ∧ wr.heap.size = w.heap.size + 2 + k ∧ Arr wr w.heap.size 111 (itRow (w.heap.size + 2) k l.length) ∧ wr.cell? ⟨w.heap.size + 1, 0, none⟩ = some (.slice (some ⟨w.heap.size, 0, none⟩) l.length l.length) ∧ ∀ i, i < k → wr.heap[w.heap.size + 2 + i]? = some (.cells #[X i, X i] 113 (0, 0))) (fun i _ => l.length - (intOf i).toNat)
  case atStart =>
    refine ⟨0, rfl, Nat.zero_le _, ?_, ?_, ?_, ?_, fun i hi => by omega⟩
    · exact ((Below.refl _ _).alloc (Nat.le_refl _) _).alloc (by simp) _
    · simp
    · rw [Arr, itRow_zero]; exact (heap_alloc_old _ _ (by simp)).trans (heap_alloc_at _ _)
    · simp
  case round =>
    obtain ⟨k, rfl, hk, hb, hsz, hA, hc, hit⟩ := hrel
    by_cases hlt : k < l.length
    · obtain ⟨b, o, ha, hSb, hcell, hJR⟩ := he.out k hlt
      have cx := (hb.cell (p := ⟨b, o + k, none⟩) (HS.out b hSb)).trans hcell
      have HA := Lib.hid hA; have HB := Lib.hid hb; have IT := Lib.hid hit; have HC := Lib.hid hc
      subst ha
      have hfr := hA.fr k
      have hcr := hA.cell (i := k) (by rw [itRow_len]; exact hlt)
      have hform := hJR.form
      clear hA hb hit hcell hJR hc
      have c2 := HC.out
      rcases hform with e | ⟨t', u, e⟩
      all_goals
        rw [e] at cx
        have bA : Below wr.heap.size wr (wr.alloc (.cells #[X k, X k] 113)) := (Below.refl _ _).alloc (Nat.le_refl _) _
        have d2 := (bA.cell (p := ⟨w.heap.size + 1, 0, none⟩) (by show w.heap.size + 1 < _; omega)).trans c2
        have dA := HA.out.below bA (by omega)
        have dx := (bA.cell (p := ⟨b, o + k, none⟩) (by have := HS.out b hSb; show b < _; omega)).trans cx
        have df := dA.fr k
        have dr := dA.cell (i := k) (by rw [itRow_len]; exact hlt)
        rw [e] at d2 dx df dr
        have XV := Lib.hid e
        clear e bA dA
        go_wp2_with fail
        go_region
        all_goals
          go_wp2_with fail
          go_roundw
          case rel =>
            exact ⟨k + 1, by go_num, by omega, item_step XV.out HB.out hsz HA.out HC.out IT.out⟩
          case measure => simp [intOf]; omega
    · have hkl : k = l.length := by omega
      subst hkl
      have C := Lib.hid (stable_items (N := N) hl HN.out HOK.out HS.out (fun i hi => by obtain ⟨_, _, _, _, _, h⟩ := he.out i hi; exact h) hb hsz hA hc hit)
      clear hA hb hit he
      go_wp2_with fail
      refine C.out.mono ?_
      rintro e w2 ⟨rfl, hg, hb2, hc2⟩
      have HG := Lib.hid hg
      have HB := Lib.hid hb2
      clear hg hb2 hc
      go_wp2_with fail
      go_ret2
      obtain ⟨g, hg⟩ := HG.out
      exact ⟨⟨_, g, rfl, hg⟩, HB.out⟩
end Go.Proofs.YtofpdcjgakmlnaaGreatDoor
