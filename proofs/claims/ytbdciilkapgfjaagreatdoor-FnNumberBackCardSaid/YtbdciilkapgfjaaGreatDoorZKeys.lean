/- slices.Sorted of maps.Keys: a map's keys, sorted, in a new row. -/
import Derived.Test.YtbdciilkapgfjaaGreatDoorShelfI
import Derived.Test.YtbdciilkapgfjaaGreatDoorZMap
import Derived.WalkKit
import Derived.Shelf.SlIter.Nil
import Derived.Shelf.SortM.Plain
import Derived.Shelf.SortM.SortNone
namespace Go.Proofs.YtbdciilkapgfjaaGreatDoor
open Go.RowKit Go.Maps Go.Sort Go.Shelf
open Go.WideElems (rd rg rg_of)

theorem maps_Keys (b : Nat) (w : World) : Calls Tryz.prog 33 #[.map (some b)] w fun e w' => e = .returned (.func (.func 43) #[] #[.pointer (some ⟨w.heap.size, 0, none⟩)]) ∧ w' = w.alloc (.cells #[.map (some b)] 43) :=
  callsIn_wide.1 (AnyZ.keys_in Tryz.keysZ Fence.wide 5 trivial rfl (some b) w)

theorem sorts (m : Nat) : AnyZ.SortsIn Tryz.prog Tryz.sortedZ_ren Fence.wide m :=
  ⟨fun blk off cap ss W hH hblk hsz => callsIn_wide.2 (AnyM.slices_Sort_string Tryz.sortM blk off cap ss W hH hblk hsz),
   fun p cap W => callsIn_wide.2 (AnyM.slices_Sort_string_none Tryz.sortM p cap W)⟩

/-- Any value reads. -/
def anyR : Value → Option (DataW Unit × List MemPlace) := fun _ => some (.nil, [])

theorem keyOf_string (s : ByteArray) (h : s.size ≤ maxLen) : keyOf Tryz.prog 9 (.string s) = some (.string s.data.toList) := by
  have : s.data.toList.length ≤ maxLen := by rw [Array.length_toList]; exact h
  simp [keyOf, Tryz.underlying9, mapKey, h]

/-- A map of entries as the library's contracts have it. -/
theorem owns_of_mapAt {w : World} {b : Nat} {mv : List (ByteArray × Value)} (hM : MapAt w b mv) (hl : mv.length ≤ 1000000) (hk : ∀ p ∈ mv, p.1.size ≤ maxLen) :
    ∃ D : DataW Unit, w.ownsMap Tryz.prog 9 anyR b mv.length D ∧ (strKeys D).Perm (mv.map fun p => p.1.data.toList) ∧ Maps.size D = mv.length := by
  obtain ⟨es, c, hb, hs, he, hn⟩ := hM
  have hsz : es.size = mv.length := by have := congrArg List.length he; simpa using this
  have hrd : ∀ x ∈ es.toList, ∃ s : ByteArray, x.key = .string s ∧ rd Tryz.prog 9 anyR x = some (.string s.data.toList, .nil) := by
    intro x hx
    have h1 : (x.key, x.val) ∈ mv.map (fun p => (Value.string p.1, p.2)) := by rw [← he]; exact List.mem_map.2 ⟨x, hx, rfl⟩
    obtain ⟨p, hp, e⟩ := List.mem_map.1 h1
    simp only [Prod.mk.injEq] at e
    refine ⟨p.1, e.1.symm, ?_⟩
    unfold WideElems.rd
    rw [← e.1, keyOf_string p.1 (hk p hp)]
    rfl
  refine ⟨.map ((es.toList.map (rg Tryz.prog 9 anyR)).foldr DataW.insert []), ⟨es, c, hb, ⟨by unfold maxLen; omega, ?_, fun x hx => ?_⟩, by omega, rfl⟩, ?_, ?_⟩
  · refine ⟨fun e he1 => hs.born e he1, hs.nodup, ?_⟩
    have e1 : es.toList.map (·.key) = (mv.map (·.1)).map Value.string := by
      have := congrArg (List.map (·.1)) he
      rw [List.map_map, List.map_map] at this
      rw [List.map_map]
      exact this
    rw [e1]
    exact List.pairwise_map.2 (hn.imp fun hne e => hne (by injection e))
  · obtain ⟨s, _, h⟩ := hrd x hx
    exact ⟨_, h⟩
  · show ((((es.toList.map (rg Tryz.prog 9 anyR)).foldr DataW.insert []).map fun p => strOf p.1)).Perm _
    refine ((WideShapes.sorted_perm _).map _).trans ?_
    rw [List.map_map]
    have e1 : es.toList.map ((fun p : Lit × DataW Unit => strOf p.1) ∘ rg Tryz.prog 9 anyR) = es.toList.map (fun e => match e.key with | .string s => s.data.toList | _ => []) := by
      refine List.map_congr_left fun x hx => ?_
      obtain ⟨s, h1, h2⟩ := hrd x hx
      simp only [Function.comp, rg_of h2, h1]
      rfl
    rw [e1]
    have e2 : es.toList.map (fun e => match e.key with | .string s => s.data.toList | _ => []) = (es.toList.map (fun e => (e.key, e.val))).map (fun q => match q.1 with | .string s => s.data.toList | _ => []) := by rw [List.map_map]; rfl
    rw [e2, he, List.map_map]
    exact List.Perm.refl _
  · show ((es.toList.map (rg Tryz.prog 9 anyR)).foldr DataW.insert []).length = _
    rw [length_sorted]
    simp [hsz]

set_option maxHeartbeats 1000000 in
/-- slices.Sorted of what maps.Keys gave for a map: a new row of its keys, sorted. -/
theorem sorted_Keys {w : World} {b : Nat} {mv : List (ByteArray × Value)} (hM : MapAt w b mv) (hl : mv.length ≤ 1000000) (hk : ∀ p ∈ mv, p.1.size ≤ maxLen) :
    Calls Tryz.prog 32 #[.func (.func 43) #[] #[.pointer (some ⟨w.heap.size, 0, none⟩)]] (w.alloc (.cells #[.map (some b)] 43)) fun e w' =>
      ∃ v, e = .returned v ∧ w'.ownsRow (w.heap.size + 1) 9 1 v mv.length (((mv.map fun p => p.1.data.toList).mergeSort leB).map encStr) ∧ Below (w.heap.size + 1) (w.alloc (.cells #[.map (some b)] 43)) w' := by
  obtain ⟨D0, hown, hperm, hsize⟩ := owns_of_mapAt hM hl hk
  have hbl := hown.lt
  have hseq : SeqGives Fence.wide 2 Tryz.prog 43 #[.pointer (some ⟨w.heap.size, 0, none⟩)] encStr (fun ss => ss.Perm (strKeys D0)) (Maps.size D0) (w.alloc (.cells #[.map (some b)] 43)) :=
    AnyZ.keys_gives (ρ := Tryz.keysZ_ren) { Tryz.keysZ with } Fence.wide _ trivial rfl (by omega) w.heap.size b mv.length D0 _ (by simp) (by simp) (by
      obtain ⟨es, clock, hb, Ft, hs, hD⟩ := hown
      exact ⟨es, clock, (Below.heap_alloc _ _ b hbl).trans hb, Ft, hs, hD⟩)
  have h := AnyZ.sorted_in Tryz.sortedZ Fence.wide 5 trivial trivial trivial trivial rfl (by omega) (sorts _) (enters_of Tryz.func42 (by kernel_rfl) rfl) 43 #[.pointer (some ⟨w.heap.size, 0, none⟩)] trivial (enters_of Tryz.func43 (by kernel_rfl) rfl) _ _ (by rw [hsize]; unfold maxLen; omega) (by rw [hsize]; omega) _ hseq
  refine (callsIn_wide.1 h).mono ?_
  rintro e w' ⟨v, ss, rfl, hS, hrow, _, hb⟩
  have hp := hS.trans hperm
  have hlen : ss.length = mv.length := by have := hp.length_eq; simpa using this
  rw [World.size_alloc] at hrow hb
  rw [hlen] at hrow
  have e1 : ss.mergeSort (fun x y => decide (x ≤ y)) = (mv.map fun p => p.1.data.toList).mergeSort leB := mergeSort_of_perm hp
  rw [e1] at hrow
  exact ⟨v, rfl, hrow, hb⟩

/-- Keys that rise are their own sorting. -/
theorem sorted_rising {ks : List (List UInt8)} (h : ks.Pairwise fun x y => leB x y = true) : ks.mergeSort leB = ks := List.mergeSort_of_pairwise h
end Go.Proofs.YtbdciilkapgfjaaGreatDoor
