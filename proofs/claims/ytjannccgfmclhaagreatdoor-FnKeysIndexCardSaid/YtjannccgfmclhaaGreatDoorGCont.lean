/- A part of the proof. -/
import Derived.Test.YtjannccgfmclhaaGreatDoorGIn
import Derived.Test.YtjannccgfmclhaaGreatDoorGKeys
import Derived.Test.YtjannccgfmclhaaGreatDoorMapFrom
import Derived.Test.YtjannccgfmclhaaGreatDoorHas
import Derived.LoopTactic
namespace Go.Proofs.YtjannccgfmclhaaGreatDoor
open Go.RowKit

/-- The keys of an object, as the package's keys gives them. -/
theorem gkeys_obj {w : World} {b : Nat} {m : List (ByteArray × J)} {mv : List (ByteArray × Value)} (hM : MapAt w b mv) (hp : (mv.map (·.1)).Perm (m.map (·.1))) (hl : m.length ≤ 400)
    (hup : ∀ i (_ : i + 1 < m.length), Op.bytesLess m[i].1.toList m[i + 1].1.toList = true) :
    Calls Tryz.prog 40 #[.map (some b)] w fun e w' => ∃ g, e = .returned (.slice (some ⟨g, 0, none⟩) m.length m.length) ∧ w.heap.size ≤ g ∧ Arr w' g 9 (m.map fun p => Value.string p.1) ∧ Below w.heap.size w w' := by
  have hlen : mv.length = m.length := by have := hp.length_eq; simpa using this
  have h := gkeys_any hM (by omega)
  rw [keys_sorted hup hp, hlen] at h
  exact h

set_option maxRecDepth 100000 in
theorem funcKeys_arr (a : Option Addr) (n cap : Nat) (hn : n ≤ 400) (w : World) :
    Calls Tryz.prog 28 #[.iface 40 (.slice a n cap)] w fun e w' => e = .returned (.iface 40 (.slice (some ⟨w.heap.size, 0, none⟩) n n)) ∧ Arr w' w.heap.size 20 (fillRow (fun i => .iface 3 (.int .i64 i)) n n) ∧ Below w.heap.size w w' := by
  have hmk := makeAnys n hn
  have A0 := Lib.hid (arr_made w n)
  have B0 : Hid (Below w.heap.size w (w.alloc (.cells (madeCells #[.nilIface] n) 20))) := Lib.hid ((Below.refl _ _).alloc (Nat.le_refl _) _)
  go_enter Tryz.func28, Tryz.ntmps28
  go_wp2_with (simp only [hmk])
  go_loopw [24] (fun i wr => ∃ m : Nat, i = .int .i64 m ∧ m ≤ n ∧ Arr wr w.heap.size 20 (fillRow (fun i => .iface 3 (.int .i64 i)) m n) ∧ Below w.heap.size w wr) (fun i _ => n - (intOf i).toNat)
  case atStart => exact ⟨0, rfl, Nat.zero_le _, by rw [fillRow_zero]; exact A0.out, B0.out⟩
  case round =>
    obtain ⟨m, rfl, hm, hA, hb⟩ := hrel
    by_cases hlt : m < n
    · have hc := hA.cell (i := m) (by rw [fillRow_len]; exact hlt)
      have hf := hA.fr m
      have HA := Lib.hid hA; have HB := Lib.hid hb
      clear hA hb
      go_wp2_with fail
      go_roundw
      case rel =>
        have h := HA.out.set m (.iface 3 (.int .i64 m))
        rw [fillRow_set (fun i => .iface 3 (.int .i64 i))] at h
        exact ⟨m + 1, by go_num, by omega, h, HB.out.setCell (Nat.le_refl _) _⟩
      case measure => simp [intOf]; omega
    · obtain rfl : m = n := by omega
      have HA := Lib.hid hA; have HB := Lib.hid hb
      clear hA hb
      go_wp2_with fail
      go_ret
      exact ⟨rfl, HA.out, HB.out⟩

set_option maxRecDepth 100000 in
theorem funcKeys_map {w : World} {b : Nat} {m : List (ByteArray × J)} {mv : List (ByteArray × Value)} (hM : MapAt w b mv) (hp : (mv.map (·.1)).Perm (m.map (·.1))) (hl : m.length ≤ 400)
    (hup : ∀ i (_ : i + 1 < m.length), Op.bytesLess m[i].1.toList m[i + 1].1.toList = true) (F : Nat → Value) (hF : ∀ i (h : i < m.length), F i = .iface 9 (.string m[i].1)) :
    Calls Tryz.prog 28 #[.iface 52 (.map (some b))] w fun e w' => e = .returned (.iface 40 (.slice (some ⟨w.heap.size, 0, none⟩) m.length m.length)) ∧ Arr w' w.heap.size 20 (fillRow F m.length m.length) ∧ Below w.heap.size w w' := by
  have hmk := makeAnys m.length hl
  have hb0 : Below w.heap.size w (w.alloc (.cells (madeCells #[.nilIface] m.length) 20)) := (Below.refl _ _).alloc (Nat.le_refl _) _
  have A0 := Lib.hid (arr_made w m.length)
  have B0 := Lib.hid hb0
  have hlen : mv.length = m.length := by have := hp.length_eq; simpa using this
  have K := Lib.hid (gkeys_obj (hM.same (hb0.block b hM.lt)) hp hl hup)
  have hln := len_mapAt hM
  rw [hlen] at hln
  have HF := Lib.hid hF
  clear hM hp hup hb0 hF
  go_enter Tryz.func28, Tryz.ntmps28
  go_wp2_with (first | simp only [hln] | simp only [hmk])
  refine K.out.mono ?_
  rintro e w1 ⟨g, rfl, hg, hKA, hb1⟩
  have A1 := Lib.hid (A0.out.below hb1 (by simp))
  have B1 := Lib.hid (B0.out.trans (hb1.mono B0.out.size))
  have KA := Lib.hid hKA
  have hg1 := hKA.lt
  simp only [World.size_alloc] at hg
  clear hKA hb1 K
  go_wp2_with fail
  go_loopw [44] (fun i wr => ∃ k : Nat, i = .int .i64 k ∧ k ≤ m.length ∧ Arr wr w.heap.size 20 (fillRow F k m.length) ∧ Arr wr g 9 (m.map fun p => Value.string p.1) ∧ Below w.heap.size w wr) (fun i _ => m.length - (intOf i).toNat)
  case atStart => exact ⟨0, rfl, Nat.zero_le _, by rw [fillRow_zero]; exact A1.out, KA.out, B1.out⟩
  case round =>
    obtain ⟨k, rfl, hm, hA, hS, hb⟩ := hrel
    by_cases hlt : k < m.length
    · have hc := hA.cell (i := k) (by rw [fillRow_len]; exact hlt)
      have hf := hA.fr k
      have hk := hS.cell (i := k) (by simpa using hlt)
      have hfk := HF.out k hlt
      rw [List.getElem_map] at hk
      have FK := Lib.hid hfk
      generalize m[k].1 = key at hk FK
      have HA := Lib.hid hA; have HB := Lib.hid hb; have HS := Lib.hid hS
      clear hA hb hS hfk
      go_wp2_with fail
      go_roundw
      case rel =>
        have h := HA.out.set k (F k)
        rw [fillRow_set F, FK.out] at h
        exact ⟨k + 1, by go_num, by omega, h, HS.out.same (Below.heap_setCell _ _ _ _ (by simp; omega)), HB.out.setCell (Nat.le_refl _) _⟩
      case measure => simp [intOf]; omega
    · obtain rfl : k = m.length := by omega
      have HA := Lib.hid hA; have HB := Lib.hid hb
      clear hA hb hS
      go_wp2_with fail
      go_ret
      exact ⟨rfl, HA.out, HB.out⟩

theorem GIn.value {S : Nat → Prop} {w w' : World} {j : J} {v : Value} (h : JR w' (fun b => S b ∨ New w.heap.size w' b) j v) (hb : Below w.heap.size w w') : GIn S w (.value j) (.returned v) w' := ⟨v, rfl, h, hb⟩

theorem jr_num {w : World} {S : Nat → Prop} (i : Int) : JR w S (.num (2 * i)) (.iface 3 (.int .i64 i)) := by
  refine .leaf ?_ rfl (fun m hm => by cases hm)
  have e1 : (2 * i) % 2 = 0 := by omega
  have e2 : (2 * i) / 2 = i := by omega
  simp [JHead, e1, e2]
theorem jr_str {w : World} {S : Nat → Prop} (s : ByteArray) : JR w S (.str s) (.iface 9 (.string s)) := .leaf rfl rfl (fun m hm => by cases hm)

theorem JOK.rises {m : List (ByteArray × J)} (hj : JOK (.obj m)) : m.length ≤ 400 ∧ ∀ i (_ : i + 1 < m.length), Op.bytesLess m[i].1.toList m[i + 1].1.toList = true := by
  rw [JOK] at hj
  exact ⟨by simpa [J.ents] using hj.2.2.2.1, hj.2.2.2.2.2.2.1⟩

theorem funcKeys_any {w : World} {S : Nat → Prop} {j : J} {v : Value} (hj : JOK j) (hh : Holds j) (hV : JR w S j v) :
    Calls Tryz.prog 28 #[v] w (GIn S w (.value (.arr (keysJ j)))) := by
  cases j with
  | arr l =>
    obtain ⟨a, cap, rfl, _⟩ := hV.arr
    have hl : l.length ≤ 400 := by rw [JOK] at hj; exact hj.2.2.1
    refine (funcKeys_arr a l.length cap hl w).mono ?_
    rintro e w' ⟨rfl, hA, hb⟩
    refine .value ?_ hb
    have e1 : (keysJ (.arr l)).length = l.length := by simp [keysJ]
    have h := JR.filled (S := fun b => S b ∨ New w.heap.size w' b) (l := keysJ (.arr l)) (cap := l.length) (by rw [e1]; exact hA) (Or.inr ⟨Nat.le_refl _, hA.lt⟩) (fun i hi => by
      simp only [keysJ, List.getElem_map, List.getElem_range]
      exact jr_num _)
    rw [e1] at h
    exact h
  | obj m =>
    obtain ⟨b, mv, rfl, hb, hM, hp, _⟩ := hV.obj
    obtain ⟨hl, hup⟩ := hj.rises
    refine (funcKeys_map hM hp hl hup (fun i => if h : i < m.length then .iface 9 (.string m[i].1) else .nilIface) (fun i h => by simp [h])).mono ?_
    rintro e w' ⟨rfl, hA, hb⟩
    refine .value ?_ hb
    have e1 : (keysJ (.obj m)).length = m.length := by simp [keysJ]
    have h := JR.filled (S := fun b => S b ∨ New w.heap.size w' b) (l := keysJ (.obj m)) (cap := m.length) (by rw [e1]; exact hA) (Or.inr ⟨Nat.le_refl _, hA.lt⟩) (fun i hi => by
      have hi' : i < m.length := by rw [e1] at hi; exact hi
      simp only [keysJ, List.getElem_map, hi', dite_true]
      exact jr_str _)
    rw [e1] at h
    exact h
  | _ => exact hh.elim

theorem gvalues_slice (a : Option Addr) (n cap : Nat) (w : World) : Calls Tryz.prog 29 #[.iface 40 (.slice a n cap)] w fun e w' => e = .returned (.tuple #[.slice a n cap, .bool true]) ∧ w = w' := by
  go_enter Tryz.func29, Tryz.ntmps29
  go_wp2_with fail
  go_ret2
  exact ⟨rfl, rfl⟩

set_option maxRecDepth 100000 in
theorem gvalues_map {w : World} {b : Nat} {m : List (ByteArray × J)} {mv : List (ByteArray × Value)} (hM : MapAt w b mv) (hp : (mv.map (·.1)).Perm (m.map (·.1))) (hl : m.length ≤ 400)
    (hup : ∀ i (_ : i + 1 < m.length), Op.bytesLess m[i].1.toList m[i + 1].1.toList = true) (F : Nat → Value) (hF : ∀ i (h : i < m.length), (m[i].1, F i) ∈ mv) (hform : ∀ i, F i = .nilIface ∨ ∃ t u, F i = .iface t u) :
    Calls Tryz.prog 29 #[.iface 52 (.map (some b))] w fun e w' => e = .returned (.tuple #[.slice (some ⟨w.heap.size, 0, none⟩) m.length m.length, .bool true]) ∧ Arr w' w.heap.size 20 (fillRow F m.length m.length) ∧ Below w.heap.size w w' := by
  have hmk := makeAnys m.length hl
  have hb0 : Below w.heap.size w (w.alloc (.cells (madeCells #[.nilIface] m.length) 20)) := (Below.refl _ _).alloc (Nat.le_refl _) _
  have A0 := Lib.hid (arr_made w m.length)
  have B0 := Lib.hid hb0
  have hlen : mv.length = m.length := by have := hp.length_eq; simpa using this
  have K := Lib.hid (gkeys_obj (hM.same (hb0.block b hM.lt)) hp hl hup)
  have hln := len_mapAt hM
  rw [hlen] at hln
  have HF := Lib.hid hF; have HM := Lib.hid hM; have HO := Lib.hid hform
  clear hM hp hup hb0 hF hform
  go_enter Tryz.func29, Tryz.ntmps29
  go_wp2_with (first | simp only [hln] | simp only [hmk])
  refine K.out.mono ?_
  rintro e w1 ⟨g, rfl, hg, hKA, hb1⟩
  have A1 := Lib.hid (A0.out.below hb1 (by simp))
  have B1 := Lib.hid (B0.out.trans (hb1.mono B0.out.size))
  have KA := Lib.hid hKA
  have hg1 := hKA.lt
  simp only [World.size_alloc] at hg
  clear hKA hb1 K
  go_wp2_with fail
  go_loopw [24] (fun i wr => ∃ k : Nat, i = .int .i64 k ∧ k ≤ m.length ∧ Arr wr w.heap.size 20 (fillRow F k m.length) ∧ Arr wr g 9 (m.map fun p => Value.string p.1) ∧ Below w.heap.size w wr) (fun i _ => m.length - (intOf i).toNat)
  case atStart => exact ⟨0, rfl, Nat.zero_le _, by rw [fillRow_zero]; exact A1.out, KA.out, B1.out⟩
  case round =>
    obtain ⟨k, rfl, hm, hA, hS, hb⟩ := hrel
    by_cases hlt : k < m.length
    · have hc := hA.cell (i := k) (by rw [fillRow_len]; exact hlt)
      have hf := hA.fr k
      have hk := hS.cell (i := k) (by simpa using hlt)
      have hfk := HF.out k hlt
      rw [List.getElem_map] at hk
      generalize m[k].1 = key at hk hfk
      obtain ⟨x, hx⟩ : ∃ x, F k = x := ⟨_, rfl⟩
      rw [hx] at hfk
      have hlook := (HM.out.same (hb.block b HM.out.lt)).lookup_hit (P := Tryz.prog) (T := 52) (K := 9) (E := 20) Tryz.underlying52 Tryz.underlying9 hfk false
      simp only [if_false, Bool.false_eq_true] at hlook
      have form := HO.out k
      rw [hx] at form
      have HA := Lib.hid hA; have HB := Lib.hid hb; have HS := Lib.hid hS; have HX := Lib.hid hx
      clear hA hb hS hfk hx
      rcases form with rfl | ⟨t, u, rfl⟩
      all_goals
        go_wp2_with (simp only [hlook])
        go_roundw
        case rel =>
          have h := HA.out.set k (F k)
          rw [fillRow_set F, HX.out] at h
          exact ⟨k + 1, by go_num, by omega, h, HS.out.same (Below.heap_setCell _ _ _ _ (by simp; omega)), HB.out.setCell (Nat.le_refl _) _⟩
        case measure => simp [intOf]; omega
    · obtain rfl : k = m.length := by omega
      have HA := Lib.hid hA; have HB := Lib.hid hb
      clear hA hb hS
      go_wp2_with fail
      go_ret2
      exact ⟨rfl, HA.out, HB.out⟩

/-- The package's values of an array or object. -/
theorem gvalues_any {w : World} {S : Nat → Prop} {j : J} {v : Value} (hj : JOK j) (hh : Holds j) (hS : ∀ b, S b → b < w.heap.size) (hV : JR w S j v) :
    Calls Tryz.prog 29 #[v] w fun e w' => ∃ a cap, e = .returned (.tuple #[.slice a (valsJ j).length cap, .bool true]) ∧ JR w' (fun b => S b ∨ New w.heap.size w' b) (.arr (valsJ j)) (.iface 40 (.slice a (valsJ j).length cap)) ∧ Below w.heap.size w w' := by
  cases j with
  | arr l =>
    have hV0 := hV
    obtain ⟨a, cap, rfl, _⟩ := hV.arr
    refine (gvalues_slice a l.length cap w).mono ?_
    rintro e w' ⟨rfl, rfl⟩
    exact ⟨a, cap, rfl, hV0.mono (fun b hb => Or.inl hb), Below.refl _ _⟩
  | obj m =>
    obtain ⟨b, mv, rfl, hb, hM, hp, hE⟩ := hV.obj
    obtain ⟨hl, hup⟩ := hj.rises
    have hf : ∃ F : Nat → Value, (∀ i (h : i < m.length), (m[i].1, F i) ∈ mv ∧ JR w S m[i].2 (F i)) ∧ ∀ i, F i = .nilIface ∨ ∃ t u, F i = .iface t u := by
      refine ⟨fun i => if h : i < m.length then (hE i h).choose else .nilIface, fun i h => by simp only [h, dite_true]; exact (hE i h).choose_spec, fun i => ?_⟩
      by_cases h : i < m.length
      · simp only [h, dite_true]; exact (hE i h).choose_spec.2.form
      · simp [h]
    obtain ⟨F, hF, hform⟩ := hf
    refine (gvalues_map hM hp hl hup F (fun i h => (hF i h).1) hform).mono ?_
    rintro e w' ⟨rfl, hA, hb⟩
    have e1 : (valsJ (.obj m)).length = m.length := by simp [valsJ]
    refine ⟨some ⟨w.heap.size, 0, none⟩, m.length, by rw [e1], ?_, hb⟩
    exact JR.filled (S := fun b => S b ∨ New w.heap.size w' b) (l := valsJ (.obj m)) (cap := m.length) (by rw [e1]; exact hA) (Or.inr ⟨Nat.le_refl _, hA.lt⟩) (fun i hi => by
      have hi' : i < m.length := by rw [e1] at hi; exact hi
      simp only [valsJ, List.getElem_map]
      exact ((hF i hi').2.go (fun b h => hb.block b (hS b h)) (fun b h => Or.inl h)))
  | _ => exact hh.elim

theorem funcLength_arr (a : Option Addr) (n cap : Nat) (w : World) : Calls Tryz.prog 30 #[.iface 40 (.slice a n cap)] w fun e w' => e = .returned (.iface 3 (.int .i64 n)) ∧ w = w' := by
  go_enter Tryz.func30, Tryz.ntmps30
  go_wp2_with fail
  go_ret
  exact ⟨rfl, rfl⟩
theorem funcLength_map {b : Nat} {mv : List (ByteArray × Value)} {w : World} (hM : MapAt w b mv) : Calls Tryz.prog 30 #[.iface 52 (.map (some b))] w fun e w' => e = .returned (.iface 3 (.int .i64 mv.length)) ∧ w = w' := by
  have hln := len_mapAt hM
  clear hM
  go_enter Tryz.func30, Tryz.ntmps30
  go_wp2_with (simp only [hln])
  go_ret
  exact ⟨rfl, rfl⟩
theorem funcLength_any {w : World} {S : Nat → Prop} {j : J} {v : Value} (hh : Holds j) (hV : JR w S j v) :
    Calls Tryz.prog 30 #[v] w (GIn S w (.value (.num (2 * ((valsJ j).length : Int))))) := by
  cases j with
  | arr l =>
    obtain ⟨a, cap, rfl, _⟩ := hV.arr
    refine (funcLength_arr a l.length cap w).mono ?_
    rintro e w' ⟨rfl, rfl⟩
    exact .value (jr_num _) (Below.refl _ _)
  | obj m =>
    obtain ⟨b, mv, rfl, hb, hM, hp, hE⟩ := hV.obj
    have hlen : mv.length = m.length := by have := hp.length_eq; simpa using this
    refine (funcLength_map hM).mono ?_
    rintro e w' ⟨rfl, rfl⟩
    have e1 : (valsJ (.obj m)).length = m.length := by simp [valsJ]
    rw [e1, hlen]
    exact .value (jr_num _) (Below.refl _ _)
  | _ => exact hh.elim

theorem clampIndex_in (i n : Nat) (hi : i < n) (w : World) : Calls Tryz.prog 71 #[.int .i64 i, .int .i64 (-1), .int .i64 n] w fun e w' => e = .returned (.int .i64 i) ∧ w = w' := by
  go_enter Tryz.func71, Tryz.ntmps71
  go_wp2_with fail
  go_ret
  exact ⟨rfl, rfl⟩

theorem gindex_in (b o i n cap : Nat) (x : Value) (hi : i < n) (w : World) (hc : w.cell? ⟨b, o + i, none⟩ = some x) : Calls Tryz.prog 49 #[.slice (some ⟨b, o, none⟩) n cap, .int .i64 i] w fun e w' => e = .returned x ∧ w = w' := by
  go_enter Tryz.func49, Tryz.ntmps49
  go_wp2_with (go_at_call 71; refine (clampIndex_in i n hi _).mono ?_; rintro e w' ⟨rfl, rfl⟩)
  go_ret
  exact ⟨rfl, rfl⟩

theorem funcIndex2_arr (z : Value) (b o i n cap : Nat) (x : Value) (hi : i < n) (w : World) (hc : w.cell? ⟨b, o + i, none⟩ = some x) : Calls Tryz.prog 32 #[z, .iface 40 (.slice (some ⟨b, o, none⟩) n cap), .iface 3 (.int .i64 i)] w fun e w' => e = .returned x ∧ w = w' := by
  go_enter Tryz.func32, Tryz.ntmps32
  go_wp2_with (first | (go_at_call 48; refine (toInt_int _ _).mono ?_; rintro e w' ⟨rfl, rfl⟩) | (go_at_call 49; refine (gindex_in b o i n cap x hi _ hc).mono ?_; rintro e w' ⟨rfl, rfl⟩))
  go_ret
  exact ⟨rfl, rfl⟩

theorem funcIndex2_map (z : Value) {b : Nat} {mv : List (ByteArray × Value)} {s : ByteArray} {x : Value} {w : World} (hM : MapAt w b mv) (hx : (s, x) ∈ mv) : Calls Tryz.prog 32 #[z, .iface 52 (.map (some b)), .iface 9 (.string s)] w fun e w' => e = .returned x ∧ w = w' := by
  have hlook := hM.lookup_hit (P := Tryz.prog) (T := 52) (K := 9) (E := 20) Tryz.underlying52 Tryz.underlying9 hx false
  simp only [if_false, Bool.false_eq_true] at hlook
  go_enter Tryz.func32, Tryz.ntmps32
  go_wp2_with (simp only [hlook])
  go_ret
  exact ⟨rfl, rfl⟩

theorem funcIndex2_any {w : World} {S S' : Nat → Prop} {j : J} {v y : Value} (z : Value) (i : Nat) (hi : i < (keysJ j).length) (hx : i < (valsJ j).length) (hV : JR w S j v) (hY : JR w S' (keysJ j)[i] y) :
    Calls Tryz.prog 32 #[z, v, y] w (GIn S w (.value (valsJ j)[i])) := by
  cases j with
  | arr l =>
    obtain ⟨a, cap, rfl, hel⟩ := hV.arr
    have hil : i < l.length := hx
    obtain ⟨b, o, x, rfl, _, hc, hJ⟩ := hel i hil
    have hy : y = .iface 3 (.int .i64 i) := by
      have := hY.head
      simp only [keysJ, List.getElem_map, List.getElem_range, JHead] at this
      have e1 : (2 * (i : Int)) % 2 = 0 := by omega
      have e2 : (2 * (i : Int)) / 2 = i := by omega
      simpa [e1, e2] using this
    subst hy
    refine (funcIndex2_arr z b o i l.length cap x hil w hc).mono ?_
    rintro e w' ⟨rfl, rfl⟩
    exact .value (hJ.mono (fun b h => Or.inl h)) (Below.refl _ _)
  | obj m =>
    obtain ⟨b, mv, rfl, hb, hM, hp, hE⟩ := hV.obj
    have hil : i < m.length := by simpa [valsJ] using hx
    obtain ⟨x, hmem, hJ⟩ := hE i hil
    have hy : y = .iface 9 (.string m[i].1) := by
      have := hY.head
      simpa only [keysJ, List.getElem_map, JHead] using this
    subst hy
    refine (funcIndex2_map z hM hmem).mono ?_
    rintro e w' ⟨rfl, rfl⟩
    refine .value ?_ (Below.refl _ _)
    simp only [valsJ, List.getElem_map]
    exact hJ.mono (fun b h => Or.inl h)
  | _ => exact absurd hx (by simp [valsJ])
end Go.Proofs.YtjannccgfmclhaaGreatDoor

namespace Go.Proofs.YtjannccgfmclhaaGreatDoor
open Go.RowKit

theorem ZzValues_any {w : World} {S : Nat → Prop} {j : J} {v : Value} (hj : JOK j) (hh : Holds j) (hS : ∀ b, S b → b < w.heap.size) (hV : JR w S j v) :
    Calls Tryz.prog 19 #[v] w fun e w' => ∃ a cap, e = .returned (.tuple #[.slice a (valsJ j).length cap, .bool true]) ∧ JR w' (fun b => S b ∨ New w.heap.size w' b) (.arr (valsJ j)) (.iface 40 (.slice a (valsJ j).length cap)) ∧ Below w.heap.size w w' := by
  have H := Lib.hid (gvalues_any hj hh hS hV)
  clear hV hS
  go_enter Tryz.func19, Tryz.ntmps19
  go_wp2_with fail
  refine H.out.mono ?_
  rintro e w' ⟨a, cap, rfl, h⟩
  have HH := Lib.hid h
  clear H h
  go_wp2_with fail
  go_ret2
  exact ⟨a, cap, rfl, HH.out⟩

set_option maxRecDepth 100000 in
theorem IValues_any (j : J) (a : VC) (w : World) (S : Nat → Prop) (hj : JOK j) (hh : Holds j) (ha : VR w S j a) (hS : ∀ b, S b → b < w.heap.size) :
    Calls Tryz.prog 8 #[a.val] w (DoorOut w (.value (.arr (valsJ j)))) := by
  have HA := Lib.hid ha; have HS := Lib.hid hS; have HJ := Lib.hid hj
  have HL := Lib.hid (vals_len hj)
  clear ha hS hj
  obtain ⟨k0, h0, s0, la, ll, lc, ka, kl, kc, va, vl, vc⟩ := a
  have R0 := Lib.hid (resbox_alloc (w.alloc (.cells (VC.arr ⟨k0, h0, s0, la, ll, lc, ka, kl, kc, va, vl, vc⟩) 26)) VC.nil 0)
  have W3 : Hid (Below w.heap.size w ((w.alloc (.cells (VC.arr ⟨k0, h0, s0, la, ll, lc, ka, kl, kc, va, vl, vc⟩) 26)).alloc (.cells #[.int .i64 0, .int .i64 0, .string ByteArray.empty, .slice none 0 0, .slice none 0 0, .slice none 0 0, .int .i64 0] 30))) :=
    Lib.hid (((Below.refl _ _).alloc (Nat.le_refl _) _).alloc (by simp) _)
  have T1 := Lib.hid fun hn => toGo_any (SizeOf.sizeOf j) j _ _ S (Nat.le_refl _) HJ.out (HA.out.go (fun b hb => W3.out.block b (HS.out b hb)) (fun _ h => h)) hn
  unfold VC.val VC.arr at *
  unfold VC.nil at R0
  go_enter Tryz.func8, Tryz.ntmps8
  go_wp2_with fail
  refine (T1.out ?_).mono ?_
  · intro b hb; exact Nat.lt_of_lt_of_le (HS.out b hb) W3.out.size
  rintro e w1 ⟨v1, rfl, hG1, hb1⟩
  have HB1 := Lib.hid hb1
  have W4 := Lib.hid (W3.out.trans (hb1.mono W3.out.size))
  have Z := Lib.hid (ZzValues_any HJ.out hh (fun b hb => hb.2) (GR.jr _ (Nat.le_refl _) hG1))
  clear hb1 hG1 hh
  have KO := Lib.hid (vals_all HJ.out)
  generalize valsJ j = l at *
  go_wp2_with fail
  refine Z.out.mono ?_
  rintro e w3 ⟨ra, rc, rfl, hV3, hb3⟩
  have HB3 := Lib.hid hb3
  have RR := Lib.hid (result_any (.arr l) _ w3 _ (JOK.jw _ (Nat.le_refl _) KO.out) hV3 (fun b hb => hb.elim (fun h => Nat.lt_of_lt_of_le h.2 hb3.size) (fun h => h.2)))
  have W6 := Lib.hid (W4.out.trans (hb3.mono W4.out.size))
  clear hV3 hb3 Z
  go_wp2_with fail
  refine RR.out.mono ?_
  rintro e w4 ⟨c, rfl, hV, hb4⟩
  have W7 := Lib.hid (W6.out.trans (hb4.mono W6.out.size))
  have r0 := R0.out.below ((HB1.out.trans (HB3.out.mono HB1.out.size)).trans (hb4.mono (Nat.le_trans HB1.out.size HB3.out.size))) (by simp)
  simp only [World.size_alloc] at r0
  have q0 := r0.c0; have q1 := r0.c1; have q2 := r0.c2; have q3 := r0.c3; have q4 := r0.c4; have q5 := r0.c5; have q6 := r0.c6; have qf := r0.fr; have lt := r0.lt
  have HV := Lib.hid hV
  obtain ⟨k9, h9, s9, la9, ll9, lc9, ka9, kl9, kc9, va9, vl9, vc9⟩ := c
  unfold resVal
  clear r0 hV hb4
  go_wp2_with fail
  refine bodyPost_ret (v := .agg #[.int .i64 k9, .int .i64 h9, .string s9, .slice la9 ll9 lc9, .slice ka9 kl9 kc9, .slice va9 vl9 vc9, .int .i64 0]) (by simp [results, Tryz.results8, go_sem, q0, q1, q2, q3, q4, q5, q6]) rfl ?_
  have hsz : w.heap.size + 2 ≤ w3.heap.size := Nat.le_trans HB1.out.size HB3.out.size |> Nat.le_trans (by simp)
  exact door_out (o := .value (.arr l)) (N := w.heap.size + 1) (lo := w3.heap.size) (by intro h; cases h) W7.out (by omega) (by omega) (fun j' h => by cases h; exact HV.out)
end Go.Proofs.YtjannccgfmclhaaGreatDoor
