/- A part of the proof. -/
import Derived.Test.YtjannccgfmclhaaGreatDoorGCont
import Derived.Test.YtjannccgfmclhaaGreatDoorDoorsKeys
import Derived.Test.YtjannccgfmclhaaGreatDoorIHas
import Derived.Test.YtjannccgfmclhaaGreatDoorFits
import Derived.Test.YtjannccgfmclhaaGreatDoorSame
namespace Go.Proofs.YtjannccgfmclhaaGreatDoor
open Go.RowKit

/-- laws.container: true of arrays and objects alone. -/
theorem container_any (c : VC) (w : World) : Calls Tryz.prog 6 #[c.val] w fun e w' => e = .returned (.bool (decide (c.k = 5 ∨ c.k = 6))) ∧ Below w.heap.size w w' := by
  have hb : Below w.heap.size w (w.alloc (.cells c.arr 26)) := (Below.refl _ _).alloc (Nat.le_refl _) _
  have HB := Lib.hid hb
  clear hb
  obtain ⟨k0, h0, s0, la, ll, lc, ka, kl, kc, va, vl, vc⟩ := c
  unfold VC.val
  unfold VC.arr at *
  by_cases h5 : k0 = 5
  · subst h5
    go_enter Tryz.func6, Tryz.ntmps6
    go_wp2_with fail
    go_ret
    exact ⟨by simp, HB.out⟩
  · go_enter Tryz.func6, Tryz.ntmps6
    go_wp2_with fail
    go_ret
    exact ⟨by by_cases h6 : k0 = 6 <;> simp [h6], HB.out⟩

/-- laws.number. -/
theorem lnumber_any (n : Int) (h1 : -1000000 ≤ n) (h2 : n ≤ 1000000) (w : World) : Calls Tryz.prog 11 #[.int .i64 n] w fun e w' => e = .returned (VC.val (numVC (2 * n))) ∧ Below w.heap.size w w' := by
  unfold VC.val VC.arr numVC VC.nil
  go_enter Tryz.func11, Tryz.ntmps11
  go_wp2_with fail
  exact bodyPost_ret (v := .agg #[.int .i64 3, .int .i64 (2 * n), .string ByteArray.empty, .slice none 0 0, .slice none 0 0, .slice none 0 0]) (by simp [results, Tryz.results11, go_sem]; rfl) rfl ⟨rfl, (Below.refl _ _).alloc (Nat.le_refl _) _⟩

section
variable {j : J} {a : VC} {w : World} {S : Nat → Prop}

/-- What a door gives that gives a value. -/
def Gives (w : World) (j : J) (e : Ending) (w' : World) : Prop := ∃ c, e = .returned (resVal c 0) ∧ VR w' (New w.heap.size w') j c ∧ Below w.heap.size w w'

theorem IKeys_cont (hj : JOK j) (hh : Holds j) (ha : VR w S j a) (hS : ∀ b, S b → b < w.heap.size) : Calls Tryz.prog 7 #[a.val] w (Gives w (.arr (keysJ j))) :=
  IKeys_any j (.value (.arr (keysJ j))) a w S hj ha hS (by intro h; cases h) (fun j' h => by cases h; exact JOK.jw _ (Nat.le_refl _) (keys_all hj)) (fun _ _ _ hV _ => ZzKeys_hands (by intro h; cases h) (funcKeys_any hj hh hV))
theorem IValues_cont (hj : JOK j) (hh : Holds j) (ha : VR w S j a) (hS : ∀ b, S b → b < w.heap.size) : Calls Tryz.prog 8 #[a.val] w (Gives w (.arr (valsJ j))) :=
  IValues_any j a w S hj hh ha hS
theorem ILength_cont (hj : JOK j) (hh : Holds j) (ha : VR w S j a) (hS : ∀ b, S b → b < w.heap.size) : Calls Tryz.prog 9 #[a.val] w (Gives w (.num (2 * ((valsJ j).length : Int)))) :=
  ILength_any j (.value (.num (2 * ((valsJ j).length : Int)))) a w S hj ha hS (by intro h; cases h) (fun j' h => by cases h; exact JOK.jw _ (Nat.le_refl _) (len_ok hj)) (fun _ _ _ hV _ => ZzLength_hands (by intro h; cases h) (funcLength_any hh hV))
theorem IIndex_cont {c : VC} (i : Nat) (hi : i < (keysJ j).length) (hx : i < (valsJ j).length) (hj : JOK j) (ha : VR w S j a) (hc : VR w S (keysJ j)[i] c) (hS : ∀ b, S b → b < w.heap.size) :
    Calls Tryz.prog 12 #[a.val, c.val] w (Gives w (valsJ j)[i]) :=
  IIndex_any j (keysJ j)[i] (.value (valsJ j)[i]) a c w S hj (keys_ok hj _ (List.getElem_mem _)) ha hc hS (by intro h; cases h) (fun j' h => by cases h; exact JOK.jw _ (Nat.le_refl _) (vals_ok hj _ (List.getElem_mem _)))
    (fun _ _ _ _ hV hY _ => ZzIndex_hands (by intro h; cases h) (funcIndex2_any _ i hi hx hV hY))
/-- The keys are had. -/
theorem hasOut_keys (i : Nat) (hi : i < (keysJ j).length) : hasOut j (keysJ j)[i] = .value (.bool true) := by
  cases j with
  | arr l =>
    have hil : i < l.length := by simpa [keysJ] using hi
    simp only [keysJ, List.getElem_map, List.getElem_range, hasOut]
    rw [if_pos (by omega), decide_eq_true (by omega)]
  | obj m =>
    have hil : i < m.length := by simpa [keysJ] using hi
    simp only [keysJ, List.getElem_map, hasOut]
    rw [among_true (List.mem_map.2 ⟨m[i], List.getElem_mem _, rfl⟩)]
  | _ => exact absurd hi (by simp [keysJ])
theorem IHas_cont {c : VC} (i : Nat) (hi : i < (keysJ j).length) (hj : JOK j) (ha : VR w S j a) (hc : VR w S (keysJ j)[i] c) (hS : ∀ b, S b → b < w.heap.size) :
    Calls Tryz.prog 13 #[a.val, c.val] w (Gives w (.bool true)) := by
  have h := IHas_any j (keysJ j)[i] a c w S hj (keys_ok hj _ (List.getElem_mem _)) ha hc hS (by rw [hasOut_keys i hi]; intro h; cases h)
  rw [hasOut_keys i hi] at h
  exact h
end
end Go.Proofs.YtjannccgfmclhaaGreatDoor
