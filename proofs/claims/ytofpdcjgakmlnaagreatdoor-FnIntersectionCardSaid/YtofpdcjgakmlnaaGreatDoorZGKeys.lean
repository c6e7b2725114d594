/- A part of the proof. -/
import Derived.Test.YtofpdcjgakmlnaaGreatDoorZMap
import Derived.Maps.RangeRun
import Derived.Below
import Derived.Test.YtofpdcjgakmlnaaGreatDoorZKeys
import Derived.Test.YtofpdcjgakmlnaaGreatDoorM9
import Derived.Sort.OwnSorted
import Derived.LoopTactic
namespace Go.Proofs.YtofpdcjgakmlnaaGreatDoor
open Go.RowKit Go.MapKept
open Go.ChangeMaps (setBlock)

theorem perm_out (e : MapEntry) : ∀ (L : List MapEntry), (L.map (·.born)).Nodup → e ∈ L → L.Perm (e :: L.filter fun x => !(x.born == e.born))
  | [], _, h => by cases h
  | x :: L, hn, he => by
    have hn' : x.born ∉ L.map (·.born) ∧ (L.map (·.born)).Nodup := List.nodup_cons.1 hn
    by_cases hx : x.born = e.born
    · have hxe : x = e := by
        rcases List.mem_cons.1 he with h | h
        · exact h.symm
        · exact absurd (by rw [hx]; exact List.mem_map.2 ⟨e, h, rfl⟩) hn'.1
      subst hxe
      have : L.filter (fun y => !(y.born == x.born)) = L := List.filter_eq_self.2 fun y hy => by
        have : y.born ≠ x.born := fun h => hn'.1 (by rw [← h]; exact List.mem_map.2 ⟨y, hy, rfl⟩)
        simp [this]
      rw [List.filter_cons_of_neg (by simp), this]
    · have he' : e ∈ L := by
        rcases List.mem_cons.1 he with h | h
        · exact absurd (by rw [h]) hx
        · exact h
      rw [List.filter_cons_of_pos (by simp [hx])]
      exact (List.Perm.cons x (perm_out e L hn'.2 he')).trans (List.Perm.swap e x _)

theorem leftOf_push {es : Array MapEntry} {seen : Array Nat} {e : MapEntry} (hn : (es.toList.map (·.born)).Nodup) (he : e ∈ (leftOf es seen).toList) :
    (leftOf es seen).toList.Perm (e :: (leftOf es (seen.push e.born)).toList) := by
  have h1 : (leftOf es (seen.push e.born)).toList = (leftOf es seen).toList.filter fun x => !(x.born == e.born) := by
    unfold leftOf
    rw [Array.toList_filter, Array.toList_filter, List.filter_filter]
    refine List.filter_congr fun x _ => ?_
    by_cases h : x.born = e.born <;> simp [h]
  rw [h1]
  refine perm_out e _ ?_ he
  unfold leftOf
  rw [Array.toList_filter]
  exact (List.filter_sublist.map _).nodup hn

/-- An iterator in block r over a map of strings in block b: these keys have come up. -/
def Rng (w : World) (r b : Nat) (kvs : List (ByteArray × Value)) (done : List ByteArray) : Prop :=
  MapAt w b kvs ∧ ∃ es clock since seen c0, w.heap[r]? = some (.mapIter (some b) since seen c0) ∧ w.heap[b]? = some (.map es clock) ∧ (∀ x ∈ es.toList, x.born < since) ∧ since ≤ c0 ∧ since ≤ clock ∧
    (done.map Value.string ++ (leftOf es seen).toList.map (·.key)).Perm (es.toList.map (·.key))

theorem Rng.ne {w : World} {r b : Nat} {kvs : List (ByteArray × Value)} {done : List ByteArray} (h : Rng w r b kvs done) : r ≠ b := by
  obtain ⟨_, es, c, s, seen, c0, h1, h2, _⟩ := h
  intro e; subst e; rw [h1] at h2; cases h2
theorem Rng.lt {w : World} {r b : Nat} {kvs : List (ByteArray × Value)} {done : List ByteArray} (h : Rng w r b kvs done) : r < w.heap.size := by
  obtain ⟨_, es, c, s, seen, c0, h1, _⟩ := h
  exact (Array.getElem?_eq_some_iff.1 h1).1
theorem Rng.go {w w' : World} {r b : Nat} {kvs : List (ByteArray × Value)} {done : List ByteArray} (h : Rng w r b kvs done) (hr : w'.heap[r]? = w.heap[r]?) (hb : w'.heap[b]? = w.heap[b]?) : Rng w' r b kvs done := by
  obtain ⟨hM, es, c, s, seen, c0, h1, h2, h3⟩ := h
  exact ⟨hM.same hb, es, c, s, seen, c0, hr.trans h1, hb.trans h2, h3⟩

theorem keys_eq {es : Array MapEntry} {m : List (ByteArray × Value)} (h : es.toList.map (fun e => (e.key, e.val)) = m.map (fun p => (Value.string p.1, p.2))) : es.toList.map (·.key) = (m.map (·.1)).map Value.string := by
  have := congrArg (List.map Prod.fst) h
  simpa [List.map_map, Function.comp_def] using this

theorem perm_strings {l l' : List ByteArray} (h : (l.map Value.string).Perm (l'.map Value.string)) : l.Perm l' := by
  have := h.map fun v => match v with | .string s => s | _ => ByteArray.empty
  simpa [List.map_map, Function.comp_def] using this

section
variable {P : Program}

theorem Rng.start {w : World} {b : Nat} {kvs : List (ByteArray × Value)} (h : MapAt w b kvs) {T K E : TypeId} (hT : P.underlying T = some (.map K E)) :
    ∃ w', (Instr.range T (.map (some b))).run P w = .ok (.pointer (some ⟨w.heap.size, 0, none⟩)) w' ∧ Rng w' w.heap.size b kvs [] ∧ Below w.heap.size w w' ∧ w'.heap.size = w.heap.size + 1 := by
  have hlt := h.lt
  obtain ⟨es, c, hb, hs, he, hn⟩ := h
  refine ⟨_, run_range_map w T K E b es c hT hb, ⟨⟨es, c, ?_, hs, he, hn⟩, es, c, c, #[], c, heap_alloc_new w _, ?_, fun x hx => hs.born x hx, Nat.le_refl _, Nat.le_refl _, ?_⟩, (Below.refl _ _).alloc (Nat.le_refl _) _, by simp⟩
  · rw [heap_alloc_old w _ hlt, hb]
  · rw [heap_alloc_old w _ hlt, hb]
  · have : leftOf es #[] = es := by unfold leftOf; exact Array.filter_eq_self.2 (fun x _ => by simp)
    rw [this]; exact List.Perm.refl _

theorem next_ty {w : World} {r : Nat} {m : Option Nat} {s : Nat} {seen : Array Nat} {c : Nat} (hr : w.heap[r]? = some (.mapIter m s seen c)) (ty ty' : TypeId) :
    (Instr.next (.pointer (some ⟨r, 0, none⟩)) false ty).run P w = (Instr.next (.pointer (some ⟨r, 0, none⟩)) false ty').run P w := by
  simp only [Instr.next, getObj, Sem.run_bind, Sem.run, hr, Result.andThen]

/-- The next of a range: none is left, or a key that has not come up. -/
theorem Rng.next {w : World} {r b : Nat} {kvs : List (ByteArray × Value)} {done : List ByteArray} (h : Rng w r b kvs done) :
    (done.Perm (kvs.map (·.1)) ∧ ∀ ty, (Instr.next (.pointer (some ⟨r, 0, none⟩)) false ty).run P w = .ok (.tuple #[.bool false]) w) ∨
    ∃ s v w', done.length < kvs.length ∧ (s, v) ∈ kvs ∧ (∀ ty, (Instr.next (.pointer (some ⟨r, 0, none⟩)) false ty).run P w = .ok (.tuple #[.bool true, .string s, v]) w') ∧ Rng w' r b kvs (done ++ [s]) ∧ Below r w w' ∧ w'.heap.size = w.heap.size ∧
      (∀ k, k ≠ r → w'.heap[k]? = w.heap[k]?) ∧ (Instr.entry (.pointer (some ⟨r, 0, none⟩))).run P w' = .ok (.tuple #[.string s, v]) w' := by
  have hne := h.ne
  have hlt := h.lt
  obtain ⟨hM, es, c, s, seen, c0, h1, h2, h3, h4, h5, h6⟩ := h
  obtain ⟨es', c', hb', hst, he, hn⟩ := hM
  rw [h2] at hb'
  cases hb'
  have hk := keys_eq he
  rcases run_next_at (P := P) w (0 : Nat) r b s c0 seen es c h1 h2 h3 h4 with ⟨hz, hrun⟩ | ⟨e, hem, w1, hw1, hrun⟩
  · refine Or.inl ⟨?_, fun ty => (next_ty h1 ty _).trans hrun⟩
    have : leftOf es seen = #[] := Array.eq_empty_of_size_eq_zero hz
    rw [this] at h6
    simp only [List.map_nil, List.append_nil] at h6
    rw [hk] at h6
    exact perm_strings (by simpa using h6)
  · have hes : e ∈ es.toList := by
      unfold leftOf at hem
      rw [Array.toList_filter] at hem
      exact (List.mem_filter.1 hem).1
    obtain ⟨j, hj, hje⟩ := List.getElem_of_mem hes
    obtain ⟨p, hp, hpk, hpv⟩ := entry_at he (j := j) (e := e) (by rw [List.getElem?_eq_getElem hj, hje])
    have hpm := List.mem_of_getElem? hp
    have hw1h : w1.heap = w.heap := by rcases hw1 with rfl | rfl <;> rfl
    have hother : ∀ k, k ≠ r → (setBlock w1 r (.mapIter (some b) s (seen.push e.born) c)).heap[k]? = w.heap[k]? := fun k hk => by
      simp only [setBlock]
      rw [Array.getElem?_setIfInBounds_ne (by intro e; exact hk e.symm), hw1h]
    have hself : (setBlock w1 r (.mapIter (some b) s (seen.push e.born) c)).heap[r]? = some (.mapIter (some b) s (seen.push e.born) c) := by
      simp only [setBlock]
      rw [Array.getElem?_setIfInBounds_self_of_lt (by rw [hw1h]; exact hlt)]
    have hsz : (setBlock w1 r (.mapIter (some b) s (seen.push e.born) c)).heap.size = w.heap.size := by simp [setBlock, hw1h]
    have hb2 := (hother b hne.symm).trans h2
    have hpush := leftOf_push hst.nodup hem
    have hlen : done.length < kvs.length := by
      have h7 := h6.length_eq
      have h8 := hpush.length_eq
      rw [hk] at h7
      simp only [List.length_append, List.length_map, List.length_cons] at h7 h8
      omega
    refine Or.inr ⟨p.1, p.2, _, hlen, hpm, fun ty => by rw [next_ty h1 ty, hrun, hpk, hpv], ⟨⟨es, c, hb2, hst, he, hn⟩, es, c, s, seen.push e.born, c, hself, hb2, h3, h5, h5, ?_⟩, ?_, hsz, hother, ?_⟩
    · refine List.Perm.trans ?_ h6
      have := hpush.map (·.key)
      rw [List.map_cons, hpk] at this
      simp only [List.map_append, List.map_cons, List.map_nil, List.append_assoc, List.cons_append, List.nil_append]
      exact List.Perm.append_left _ this.symm
    · refine ⟨?_, ?_, ?_, Nat.le_of_eq hsz.symm, fun k hk => hother k (by omega)⟩ <;> rcases hw1 with rfl | rfl <;> rfl
    · rw [run_entry_at _ r b s seen es c e hself hb2 hes hst.nodup, hpk, hpv]
end
end Go.Proofs.YtofpdcjgakmlnaaGreatDoor

namespace Go.Proofs.YtofpdcjgakmlnaaGreatDoor
open Go.RowKit Go.Sort

theorem makeStrings (n : Nat) (hn : n ≤ 1000000) (w : World) :
    (Instr.makeSlice 25 (.int .i64 (n : Int)) (.int .i64 (n : Int))).run Tryz.prog w = .ok (.slice (some ⟨w.heap.size, 0, none⟩) n n) (w.alloc (.cells (madeCells #[.string ByteArray.empty] n) 9)) :=
  run_make_row' 25 9 (.string ByteArray.empty) 16 Tryz.underlying25 (by kernel_rfl) rfl .i64 .i64 n (by omega) (by omega) w

theorem made_text (n : Nat) : madeCells #[.string ByteArray.empty] n = (List.replicate n (Value.string ByteArray.empty)).toArray := by
  unfold madeCells
  apply Array.ext
  · simp
  · intro i h1 h2; simp [Nat.mod_one]

theorem text_made (w : World) (n : Nat) : Arr (w.alloc (.cells (madeCells #[.string ByteArray.empty] n) 9)) w.heap.size 9 (List.replicate n (.string ByteArray.empty)) := by
  rw [made_text]; exact heap_alloc_at _ _

theorem enc_text (s : ByteArray) : encStr s.data.toList = .string s := rfl

/-- sort.Strings of a row of its own. -/
theorem sortStrings_any (ks : List ByteArray) (g cap : Nat) (w : World) (hA : Arr w g 9 (ks.map .string)) (hl : ks.length ≤ 1000000) :
    Calls Tryz.prog 118 #[.slice (some ⟨g, 0, none⟩) ks.length cap] w fun e w' => e = .returned (.tuple #[]) ∧ Arr w' g 9 (((ks.map fun s => s.data.toList).mergeSort leB).map encStr) ∧ w.grownBy w' (some g) := by
  have hH : Holds encStr w g 0 (ks.map fun s => s.data.toList).toArray := holds_of_block (ss := ks.map fun s => s.data.toList) hA (by simp [Function.comp_def, enc_text]; exact List.take_of_length_le (by simp))
  have S := Lib.hid (AnyM.slices_Sort_string Tryz.sortM g 0 cap (ks.map fun s => s.data.toList) w hH hA.lt (by simp; omega))
  have HA := Lib.hid hA
  rw [List.length_map] at S
  clear hH hA
  go_enter Tryz.func118, Tryz.ntmps118
  go_wp2_with fail
  refine S.out.mono ?_
  rintro e w1 ⟨rfl, n, os, rfl⟩
  have hs := heap_sorted (n := n) (os := os) ((ks.map fun s => s.data.toList).mergeSort leB).toArray HA.out
  have hg := grownBy_sorted (w := w) (g := g) (n := n) (os := os) ((ks.map fun s => s.data.toList).mergeSort leB).toArray
  have hlen : ((ks.map fun s => s.data.toList).mergeSort leB).length = ks.length := by simp
  have hcell : putCells encStr 0 ((ks.map fun s => s.data.toList).mergeSort leB).toArray (ks.map Value.string).toArray = (((ks.map fun s => s.data.toList).mergeSort leB).map encStr).toArray := by
    have := take_putCells (ks.map Value.string).toArray ((ks.map fun s => s.data.toList).mergeSort leB) (by simp)
    rw [List.take_of_length_le (by simp [putCells])] at this
    exact Array.toList_inj.1 this
  rw [hcell] at hs
  have HS := Lib.hid hs; have HG := Lib.hid hg
  clear hs hg hcell hlen S
  generalize grow (putRow encStr (Sort.ahead w n) g 0 ((ks.map fun s => s.data.toList).mergeSort leB).toArray) os = w2 at *
  go_wp2_with fail
  go_end0
  exact ⟨rfl, HS.out, HG.out⟩

/-- The keys met so far, in a row made for all. -/
def metRow (done : List ByteArray) (n : Nat) : List Value := done.map Value.string ++ List.replicate (n - done.length) (.string ByteArray.empty)
theorem metRow_nil (n : Nat) : metRow [] n = List.replicate n (.string ByteArray.empty) := by simp [metRow]
theorem metRow_len {done : List ByteArray} {n : Nat} (h : done.length ≤ n) : (metRow done n).length = n := by simp [metRow]; omega
theorem metRow_full {done : List ByteArray} {n : Nat} (h : done.length = n) : metRow done n = done.map Value.string := by simp [metRow, h]
theorem metRow_set {done : List ByteArray} {n : Nat} (h : done.length < n) (s : ByteArray) : (metRow done n).set done.length (.string s) = metRow (done ++ [s]) n := by
  unfold metRow
  rw [List.set_append_right _ _ (by simp)]
  have e : n - done.length = (n - (done ++ [s]).length) + 1 := by simp; omega
  rw [e, List.replicate_succ]
  simp

theorem len_mapAt {w : World} {b : Nat} {m : List (ByteArray × Value)} (h : MapAt w b m) (ty : TypeId) : (Builtin.len_ #[51] ty #[.map (some b)]).run Tryz.prog w = .ok (.int .i64 m.length) w := by
  obtain ⟨es, c, h1, _, h3, _⟩ := h
  have hes : es.size = m.length := by have := congrArg List.length h3; simpa using this
  rw [run_len_map w 51 ty b es c (by kernel_rfl) h1, hes]
  rfl

set_option maxRecDepth 100000 in
theorem gkeys_any {w : World} {b : Nat} {kvs : List (ByteArray × Value)} (hM : MapAt w b kvs) (hl : kvs.length ≤ 400) :
    Calls Tryz.prog 90 #[.map (some b)] w fun e w' => ∃ g, e = .returned (.slice (some ⟨g, 0, none⟩) kvs.length kvs.length) ∧ w.heap.size ≤ g ∧ Arr w' g 9 (((kvs.map fun p => p.1.data.toList).mergeSort leB).map encStr) ∧ Below w.heap.size w w' := by
  have hmk := makeStrings kvs.length (by omega)
  have hb0 : Below w.heap.size w (w.alloc (.cells (madeCells #[.string ByteArray.empty] kvs.length) 9)) := (Below.refl _ _).alloc (Nat.le_refl _) _
  have hblt := hM.lt
  obtain ⟨wi, hrange, hR0, hb1, hsz1⟩ := Rng.start (P := Tryz.prog) (hM.same (hb0.block b hblt)) Tryz.underlying51
  have hA0 := (text_made w kvs.length).below hb1 (by simp)
  rw [World.size_alloc] at hrange hR0 hsz1
  have hln := len_mapAt hM
  have BB := Lib.hid (hb0.trans (hb1.mono hb0.size)); have RR := Lib.hid hR0; have AA0 := Lib.hid hA0
  clear hM hb0 hR0 hb1 hA0
  go_enter Tryz.func90, Tryz.ntmps90
  go_wp2_with (first | simp only [hln] | simp only [hmk] | simp only [hrange])
  go_loopw [4] (fun i wr => ∃ done : List ByteArray, i = .int .i64 done.length ∧ done.length ≤ kvs.length ∧ Rng wr (w.heap.size + 1) b kvs done ∧ Arr wr w.heap.size 9 (metRow done kvs.length) ∧ Below w.heap.size w wr) (fun i _ => kvs.length - (intOf i).toNat)
  case atStart => exact ⟨[], rfl, Nat.zero_le _, RR.out, by rw [metRow_nil]; exact AA0.out, BB.out⟩
  case round =>
    obtain ⟨done, rfl, hdl, hR, hA, hb⟩ := hrel
    have WB := Lib.hid hb
    rcases hR.next (P := Tryz.prog) with ⟨hperm, hnext⟩ | ⟨s, v, w', hlt, hmem, hnext, hR', hbr, hsz, hoth, hent⟩
    · have hlen : done.length = kvs.length := by have := hperm.length_eq; simpa using this
      have S := Lib.hid (sortStrings_any done w.heap.size kvs.length wr (by rw [← metRow_full hlen]; exact hA) (by omega))
      rw [hlen] at S
      have HP := Lib.hid hperm
      clear hR hA hb hperm
      go_wp2_with (simp only [hnext])
      refine S.out.mono ?_
      rintro e w2 ⟨rfl, hA2, hg⟩
      have A2 := Lib.hid hA2; have G2 := Lib.hid hg
      clear hA2 hg
      go_wp2_with fail
      go_ret
      have e1 : (done.map fun s => s.data.toList).mergeSort leB = (kvs.map fun p => p.1.data.toList).mergeSort leB := mergeSort_of_perm (by have := HP.out.map (fun s : ByteArray => s.data.toList); simpa [List.map_map, Function.comp_def] using this)
      refine ⟨w.heap.size, rfl, Nat.le_refl _, by rw [← e1]; exact A2.out, ?_⟩
      exact WB.out.grown G2.out WB.out.size (fun k hk => by cases hk; exact Nat.le_refl _)
    · have hA' : Arr w' w.heap.size 9 (metRow done kvs.length) := hA.same (hoth _ (by omega))
      have hc := hA'.cell (i := done.length) (by rw [metRow_len hdl]; exact hlt)
      have hf := hA'.fr done.length
      have HA' := Lib.hid hA'; have HR' := Lib.hid hR'; have HBR := Lib.hid hbr; have HNE := Lib.hid hR.ne
      clear hR hA hb hA' hR' hbr
      go_wp2_with (first | simp only [hnext] | simp only [hent])
      go_roundw
      case rel =>
        have hA3 := HA'.out.set done.length (.string s)
        rw [metRow_set hlt] at hA3
        have hbm : b ≠ w.heap.size := by omega
        refine ⟨done ++ [s], by simp, by simp; omega, HR'.out.go (Below.heap_setCell _ _ _ _ (by simp)) (Below.heap_setCell _ _ _ _ hbm), hA3, ?_⟩
        exact (WB.out.trans (HBR.out.mono (by omega))).setCell (Nat.le_refl _) _
      case measure => simp [intOf]; omega
end Go.Proofs.YtofpdcjgakmlnaaGreatDoor
