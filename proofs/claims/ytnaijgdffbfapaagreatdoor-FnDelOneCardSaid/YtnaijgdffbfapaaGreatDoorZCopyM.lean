/- A part of the proof. -/
import Derived.Test.YtnaijgdffbfapaaGreatDoorShelfC
import Derived.Test.YtnaijgdffbfapaaGreatDoorZMapD
import Derived.Test.YtnaijgdffbfapaaGreatDoorZRow
import Derived.Test.YtnaijgdffbfapaaGreatDoorM17
import Derived.Laws.CopyRow
import Derived.Laws.IdiomCopy
namespace Go.Proofs.YtnaijgdffbfapaaGreatDoor
open Go.RowKit Go.Maps Go.Shelf

/-- maps.Copy. -/
theorem copyM_any {bd bs : Nat} {md ms : List (ByteArray × Value)} {w : World} (hd : MapAt w bd md) (hs : MapAt w bs ms) (hne : bd ≠ bs) (ld : md.length ≤ 1000000) (ls : ms.length ≤ 1000000) (kd : ∀ p ∈ md, p.1.size ≤ maxLen) (ks : ∀ p ∈ ms, p.1.size ≤ maxLen) :
    Calls Tryz.prog 85 #[.map (some bd), .map (some bs)] w fun e w' => e = .returned (.tuple #[]) ∧ (∃ mv, MapAt w' bd mv ∧ Laid mv md ms) ∧ w.grownBy w' (some bd) := by
  obtain ⟨Dd, hod, _, hsd⟩ := owns_held hd ld kd
  obtain ⟨Ds, hos, zs, hss⟩ := owns_held hs ls ks
  refine (AnyX.maps_Copy Tryz.copyX (Maps.string_keyed Tryz.underlying9) heldR bd bs md.length ms.length Dd Ds w hod hos hne (by rw [zs]; unfold maxLen; omega)).mono ?_
  rintro e w' ⟨rfl, h1, _, h2⟩
  obtain ⟨mv, hm, hv⟩ := mapAt_held h1
  obtain ⟨es, e1, _⟩ := Says.keys hod
  exact ⟨rfl, ⟨mv, hm, laid_of hsd hss ⟨es, e1⟩ (Says.keys hos) hv⟩, h2⟩

/-- copy onto a row that has just been made. -/
theorem copyA_made {W1 : World} {g n c : Nat} {a : Option Addr} {xs : List Value} (hg : W1.heap[g]? = some (.cells (List.replicate n Value.nilIface).toArray 20 (0, 0))) (hx : xs.length = n)
    (hsrc : ∀ i (_ : i < xs.length), ∃ b o, a = some ⟨b, o, none⟩ ∧ W1.cell? ⟨b, o + i, none⟩ = some xs[i]) (h1 : ∀ u ∈ xs, u.oneCell' = true) :
    ∃ w', (∀ ty, (Builtin.copy_ #[58, 58] ty #[.slice (some ⟨g, 0, none⟩) n n, .slice a n c]).run Tryz.prog W1 = .ok (.int .i64 (n : Int)) w') ∧ w'.heap[g]? = some (.cells xs.toArray 20 (0, 0)) ∧ W1.grownBy w' (some g) := by
  have hsz : (Tryz.prog.info? 20).map (·.size) = some 1 := by kernel_rfl
  cases n with
  | zero =>
    refine ⟨W1, fun ty => run_copy_none W1 _ _ ty 20 _ a 0 0 0 c Tryz.underlying58 hsz rfl, ?_, grown_of_below0 (Below.refl _ _) _⟩
    obtain rfl : xs = [] := List.eq_nil_of_length_eq_zero hx
    simpa using hg
  | succ n =>
    obtain ⟨b, o, rfl, _⟩ := hsrc 0 (by omega)
    have hsrc' : ∀ j v, xs[j]? = some v → W1.cell? ((⟨b, o, none⟩ : Addr).add j) = some v := fun j v hj => by
      obtain ⟨hlt, e⟩ := List.getElem?_eq_some_iff.1 hj
      obtain ⟨b', o', e1, e2⟩ := hsrc j hlt
      cases e1
      rw [addr_add, e2, e]
    refine ⟨_, fun ty => by have h := run_copy_row (P := Tryz.prog) W1 58 58 ty 20 g 0 (n + 1) (n + 1) ⟨b, o, none⟩ (n + 1) c _ 20 xs Tryz.underlying58 hsz hg (by rw [hx]; simp) hsrc' (by simp; omega) h1; rw [h, hx]; rfl, ?_, ?_⟩
    · have h2 := setRow_heap W1 g _ (xs ++ (List.replicate (n + 1) Value.nilIface).drop xs.length).toArray 20 (0, 0) hg
      rw [hx, List.drop_eq_nil_of_le (by simp)] at h2
      simp only [List.append_nil] at h2
      simpa [hx] using h2
    · exact ⟨rfl, rfl, rfl, by simp [World.setRow], fun k _ hk => setRow_other W1 g k _ (fun e => hk (by rw [e]))⟩
end Go.Proofs.YtnaijgdffbfapaaGreatDoor
