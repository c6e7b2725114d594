/- A part of the proof. -/
import Derived.Test.YtinmcopamjjlbaaGreatDoorGFlat
import Derived.Test.YtinmcopamjjlbaaGreatDoorFromAll
import Derived.Test.YtinmcopamjjlbaaGreatDoorSArr
namespace Go.Proofs.YtinmcopamjjlbaaGreatDoor
open Go.RowKit

@[go_sem] theorem as_f0err_error (v : Value) (w : World) : (Instr.typeAssert (.iface 115 v) 20 74 true).run Tryz.prog w = .ok (.tuple #[.iface 115 v, .bool true]) w := run_typeAssert_hasB Tryz.underlying74 (by kernel_rfl) v 20 w

/-- What a function of the package gives: an error, or a value in blocks of S and new memory. -/
def GIn (S : Nat → Prop) (w : World) (o : Out) (e : Ending) (w' : World) : Prop :=
  match o with
  | .silent => True
  | .raises => ∃ v, e = .returned v ∧ IsErr v ∧ Below w.heap.size w w'
  | .value j => ∃ v, e = .returned v ∧ JR w' (fun b => S b ∨ New w.heap.size w' b) j v ∧ Below w.heap.size w w'

theorem gvalues_arr (a : Option Addr) (n cap : Nat) (w : World) : Calls Tryz.prog 95 #[.iface 67 (.slice a n cap)] w fun e w' => e = .returned (.tuple #[.slice a n cap, .bool true]) ∧ w = w' := by
  go_enter Tryz.func95, Tryz.ntmps95
  go_wp2_with fail
  go_ret2
  exact ⟨rfl, rfl⟩

/-- A value of the package that is neither array nor object. -/
def Plain : J → Prop | .arr _ => False | .obj _ => False | _ => True

theorem gvalues_other {w : World} {S : Nat → Prop} {j : J} {v : Value} (h : JR w S j v) (hj : Plain j) : Calls Tryz.prog 95 #[v] w fun e w' => e = .returned (.tuple #[.slice none 0 0, .bool false]) ∧ w = w' := by
  have h := h.head
  cases j with
  | arr l => exact hj.elim
  | obj l => exact hj.elim
  | null =>
    obtain rfl := h
    clear hj
    go_enter Tryz.func95, Tryz.ntmps95
    go_wp2_with fail
    go_ret2
    exact ⟨rfl, rfl⟩
  | bool b =>
    obtain rfl := h
    clear hj
    go_enter Tryz.func95, Tryz.ntmps95
    go_wp2_with fail
    go_ret2
    exact ⟨rfl, rfl⟩
  | str b =>
    obtain rfl := h
    clear hj
    go_enter Tryz.func95, Tryz.ntmps95
    go_wp2_with fail
    go_ret2
    exact ⟨rfl, rfl⟩
  | num x =>
    simp only [JHead] at h
    clear hj
    split at h
    all_goals
      obtain rfl := h
      go_enter Tryz.func95, Tryz.ntmps95
      go_wp2_with fail
      go_ret2
      exact ⟨rfl, rfl⟩

theorem ARow.jr {lo : Nat} {S : Nat → Prop} {l : List J} {a : Option Addr} {n cap : Nat} {xs : List Value} {w : World} (h : ARow lo S l (.slice a n cap) xs w) (hn : n = l.length) :
    JR w (fun b => S b ∨ New lo w b) (.arr l) (.iface 67 (.slice a n cap)) := by
  subst hn
  refine JR.of_arr fun i hi => ?_
  have hx : i < xs.length := by have := h.2.1; omega
  obtain ⟨g, cap', e, hg, hlt⟩ := h.1.form (by omega)
  have e' := e
  simp only [Value.slice.injEq] at e'
  obtain ⟨rfl, _, rfl⟩ := e'
  have hc := h.1.cells (g := g) rfl i xs[i] (by simp [hx])
  rw [addr_add] at hc
  exact ⟨g, 0, xs[i], rfl, Or.inr ⟨hg, hlt⟩, hc, (h.2.2 i hi hx).mono (fun b hb => Or.inl hb)⟩

set_option maxRecDepth 100000 in
theorem funcFlatten_arr {w : World} {S : Nat → Prop} {l : List J} {v : Value} (hV : JR w S (.arr l) v) (hn : (J.arr l).n ≤ 400) (hS : ∀ b, S b → b < w.heap.size) :
    Calls Tryz.prog 55 #[v, .slice none 0 0] w (GIn S w (.value (.arr (flatJ (.arr l))))) := by
  obtain ⟨a, cap, rfl, hel⟩ := hV.arr
  have hb0 : ∀ o, Below w.heap.size w (w.alloc o) := fun o => (Below.refl _ _).alloc (Nat.le_refl _) o
  have F := Lib.hid (GFlat_any _ l a cap [] (.slice (some ⟨w.heap.size, 0, none⟩) 0 0) [] (w.alloc (.cells #[] 20)) S w.heap.size 0 (Nat.le_refl _) (by simp; exact hn) (by omega) hS (by simp)
    ⟨World.ownsRow_lit w #[] 0 (Nat.le_refl _) (by unfold maxLen; omega) rfl, rfl, fun i hi => absurd hi (Nat.not_lt_zero i)⟩
    (fun i hi => by
      obtain ⟨b, o, x, h1, h2, h3, h4⟩ := hel i hi
      exact ⟨b, o, x, h1, h2, ((hb0 _).cell (p := ⟨b, o + i, none⟩) (hS b h2)).trans h3, h4.go (fun b h => (hb0 _).block b (hS b h)) (fun _ h => h)⟩))
  rw [dep_zero] at F
  have HB := Lib.hid (hb0 (.cells #[] 20))
  have HS := Lib.hid hS
  clear hV hel hn hS hb0
  go_enter Tryz.func55, Tryz.ntmps55
  go_wp2_with fail
  refine (gvalues_arr _ _ _ _).mono ?_
  rintro e w' ⟨rfl, rfl⟩
  go_wp2_with fail
  refine F.out.mono ?_
  rintro e w1 ⟨v, xs, rfl, hR, hb⟩
  obtain ⟨a1, c1, rfl⟩ := row_form hR.1
  have HR := Lib.hid hR; have HB1 := Lib.hid hb
  clear hR hb
  go_wp2_with fail
  go_ret
  have hR := HR.out
  rw [List.nil_append] at hR
  exact ⟨_, rfl, hR.jr hR.2.1, HB.out.trans HB1.out⟩

set_option maxRecDepth 100000 in
theorem funcFlatten_other {w : World} {S : Nat → Prop} {j : J} {v : Value} (hV : JR w S j v) (hj : Plain j) : Calls Tryz.prog 55 #[v, .slice none 0 0] w (GIn S w .raises) := by
  have form := hV.form
  have V := Lib.hid (gvalues_other hV hj)
  clear hV hj
  rcases form with rfl | ⟨t, u, rfl⟩
  all_goals
    go_enter Tryz.func55, Tryz.ntmps55
    go_wp2_with fail
    refine V.out.mono ?_
    rintro e w' ⟨rfl, rfl⟩
    go_wp2_with fail
    go_ret
    exact ⟨_, rfl, ⟨_, _, rfl, as_f0err_error _⟩, (Below.refl _ _).alloc (Nat.le_refl _) _⟩

theorem funcFlatten_any {w : World} {S : Nat → Prop} {j : J} {v : Value} (hV : JR w S j v) (hn : j.n ≤ 400) (hS : ∀ b, S b → b < w.heap.size) (hs : flatOut j ≠ .silent) :
    Calls Tryz.prog 55 #[v, .slice none 0 0] w (GIn S w (flatOut j)) := by
  cases j with
  | arr l => exact funcFlatten_arr hV hn hS
  | obj m => exact absurd rfl hs
  | null => exact funcFlatten_other hV trivial
  | bool b => exact funcFlatten_other hV trivial
  | num b => exact funcFlatten_other hV trivial
  | str b => exact funcFlatten_other hV trivial

theorem ZzFlatten_any {w : World} {S : Nat → Prop} {j : J} {v : Value} (hV : JR w S j v) (hn : j.n ≤ 400) (hS : ∀ b, S b → b < w.heap.size) (hs : flatOut j ≠ .silent) :
    Calls Tryz.prog 24 #[v, .slice none 0 0] w (GIn S w (flatOut j)) := by
  have H := Lib.hid (funcFlatten_any hV hn hS hs)
  clear hV hn hS
  generalize flatOut j = o at H hs ⊢
  go_enter Tryz.func24, Tryz.ntmps24
  go_wp2_with fail
  refine H.out.mono ?_
  intro e w' h
  clear H
  cases o with
  | silent => exact absurd rfl hs
  | raises =>
    obtain ⟨p, rfl, hb⟩ := h
    go_wp2_with fail
    go_ret
    exact ⟨p, rfl, hb⟩
  | value j1 =>
    obtain ⟨v1, rfl, hG, hb⟩ := h
    go_wp2_with fail
    go_ret
    exact ⟨v1, rfl, hG, hb⟩

theorem JOK.flat {l : List J} (h : JOK (.arr l)) (hn : (J.arr l).n ≤ 400) : JOK (.arr (flatJ (.arr l))) := by
  have hm : ∀ x ∈ flatJ (.arr l), JOK x := flatJ_mem (p := JOK) (fun l hl x hx => by
    obtain ⟨i, hi, rfl⟩ := List.getElem_of_mem hx
    exact hl.list (j := .arr l) hi) _ _ (Nat.le_refl _) h
  have hl := flatJ_len _ (.arr l) (Nat.le_refl _)
  rw [JOK]
  refine ⟨by simp [J.half], by simp [J.text, ByteArray.size], by simp only [J.list]; omega, by simp [J.ents], fun i hi => hm _ (List.getElem_mem _), fun i hi => ?_, fun i hi => ?_, fun i hi => ?_⟩
  · simp [J.ents] at hi
  · simp [J.ents] at hi
  · simp [J.ents] at hi

theorem flatOut_ok {j : J} (hj : JOK j) (hn : j.n ≤ 400) : ∀ j', flatOut j = .value j' → JOK j' := by
  intro j' h
  cases j with
  | arr l => cases h; exact hj.flat hn
  | _ => cases h

theorem result_in {o : Out} (hok : ∀ j, o = .value j → JW j) (ho : o ≠ .silent) {w w1 : World} {e : Ending} {S : Nat → Prop} (h : GIn S w o e w1) (hS : ∀ b, S b → b < w.heap.size) :
    ∃ v, e = .returned v ∧ Below w.heap.size w w1 ∧ Calls Tryz.prog 23 #[v] w1 fun e w' => ∃ c, e = .returned (resVal c o.how) ∧ (∀ j, o = .value j → VR w' (New w1.heap.size w') j c) ∧ Below w1.heap.size w1 w' := by
  cases o with
  | silent => exact absurd rfl ho
  | raises =>
    obtain ⟨v, rfl, hv, hb⟩ := h
    refine ⟨_, rfl, hb, (result_err v w1 hv).mono ?_⟩
    rintro e w' ⟨rfl, hb1⟩
    exact ⟨_, rfl, (fun j hj => by cases hj), hb1⟩
  | value j =>
    obtain ⟨v, rfl, hG, hb⟩ := h
    refine ⟨_, rfl, hb, (result_any j v w1 _ (hok j rfl) hG (fun b hb' => ?_)).mono ?_⟩
    · rcases hb' with h | h
      · exact Nat.lt_of_lt_of_le (hS b h) hb.size
      · exact h.2
    rintro e w' ⟨c, rfl, hV, hb1⟩
    exact ⟨c, rfl, (fun j hj => by cases hj; exact hV), hb1⟩

set_option maxRecDepth 100000 in
theorem IFlatten_any (j : J) (a : VC) (w : World) (S : Nat → Prop) (hj : JOK j) (hn : j.n ≤ 400) (ha : VR w S j a) (hS : ∀ b, S b → b < w.heap.size) (hs : flatOut j ≠ .silent) :
    Calls Tryz.prog 8 #[a.val] w (DoorOut w (flatOut j)) := by
  have HA := Lib.hid ha; have HS := Lib.hid hS; have HN := Lib.hid hs; have HJ := Lib.hid hj; have H4 := Lib.hid hn
  clear ha hS hs hj hn
  obtain ⟨k0, h0, s0, la, ll, lc, ka, kl, kc, va, vl, vc⟩ := a
  have B1 := Lib.hid ((box_alloc w ⟨k0, h0, s0, la, ll, lc, ka, kl, kc, va, vl, vc⟩).below ((Below.refl (w.heap.size + 1) _).alloc (by simp) (.cells #[.int .i64 0, .int .i64 0, .string ByteArray.empty, .slice none 0 0, .slice none 0 0, .slice none 0 0, .int .i64 0] 34)) (by omega))
  have R0 := Lib.hid (resbox_alloc (w.alloc (.cells (VC.arr ⟨k0, h0, s0, la, ll, lc, ka, kl, kc, va, vl, vc⟩) 26)) VC.nil 0)
  have W3 : Hid (Below w.heap.size w ((w.alloc (.cells (VC.arr ⟨k0, h0, s0, la, ll, lc, ka, kl, kc, va, vl, vc⟩) 26)).alloc (.cells #[.int .i64 0, .int .i64 0, .string ByteArray.empty, .slice none 0 0, .slice none 0 0, .slice none 0 0, .int .i64 0] 34))) :=
    Lib.hid (((Below.refl _ _).alloc (Nat.le_refl _) _).alloc (by simp) _)
  have T1 := Lib.hid fun hn => toGo_any (SizeOf.sizeOf j) j _ _ S (Nat.le_refl _) HJ.out (HA.out.go (fun b hb => W3.out.block b (HS.out b hb)) (fun _ h => h)) hn
  unfold VC.val VC.arr at *
  unfold VC.nil at R0
  go_enter Tryz.func8, Tryz.ntmps8
  go_wp2_with fail
  refine (T1.out ?_).mono ?_
  · intro b hb; exact Nat.lt_of_lt_of_le (HS.out b hb) W3.out.size
  rintro e w1 ⟨v1, rfl, hG1, hb1⟩
  have HB1 := Lib.hid hb1
  have W4 := Lib.hid (W3.out.trans (hb1.mono W3.out.size))
  have Z := Lib.hid (ZzFlatten_any (GR.jr _ (Nat.le_refl _) hG1) H4.out (fun b hb => hb.2) HN.out)
  clear hb1 hG1
  go_wp2_with fail
  refine Z.out.mono ?_
  intro e w3 hz
  obtain ⟨v3, rfl, hb3, hc⟩ := result_in (fun j' hj' => JOK.jw _ (Nat.le_refl _) (flatOut_ok HJ.out H4.out j' hj')) HN.out hz (fun b hb => hb.2)
  have W6 := Lib.hid (W4.out.trans (hb3.mono W4.out.size))
  have HB3 := Lib.hid hb3
  have HC2 := Lib.hid hc
  clear hz hb3 hc
  go_wp2_with fail
  refine HC2.out.mono ?_
  rintro e w4 ⟨c, rfl, hV, hb4⟩
  have W7 := Lib.hid (W6.out.trans (hb4.mono W6.out.size))
  have r0 := R0.out.below ((HB1.out.trans (HB3.out.mono HB1.out.size)).trans (hb4.mono (Nat.le_trans HB1.out.size HB3.out.size))) (by simp)
  simp only [World.size_alloc] at r0
  have q0 := r0.c0; have q1 := r0.c1; have q2 := r0.c2; have q3 := r0.c3; have q4 := r0.c4; have q5 := r0.c5; have q6 := r0.c6; have qf := r0.fr; have lt := r0.lt
  have HV := Lib.hid hV
  obtain ⟨k9, h9, s9, la9, ll9, lc9, ka9, kl9, kc9, va9, vl9, vc9⟩ := c
  unfold resVal
  clear r0 hV hb4
  go_wp2_with fail
  refine bodyPost_ret (v := .agg #[.int .i64 k9, .int .i64 h9, .string s9, .slice la9 ll9 lc9, .slice ka9 kl9 kc9, .slice va9 vl9 vc9, .int .i64 (flatOut j).how]) (by simp [results, Tryz.results8, go_sem, q0, q1, q2, q3, q4, q5, q6]) rfl ?_
  have hz2 : flatOut j ≠ .silent := HN.out
  have HV2 := HV.out
  have hfin : Below w.heap.size w (resStored w4 (w.heap.size + 1) ⟨k9, h9, s9, la9, ll9, lc9, ka9, kl9, kc9, va9, vl9, vc9⟩ (flatOut j).how) := resStored_below W7.out (by omega)
  have hsz : w.heap.size + 2 ≤ w3.heap.size := Nat.le_trans HB1.out.size HB3.out.size |> Nat.le_trans (by simp)
  have hV3 : ∀ j', flatOut j = .value j' → VR (resStored w4 (w.heap.size + 1) ⟨k9, h9, s9, la9, ll9, lc9, ka9, kl9, kc9, va9, vl9, vc9⟩ (flatOut j).how) (New w.heap.size (resStored w4 (w.heap.size + 1) ⟨k9, h9, s9, la9, ll9, lc9, ka9, kl9, kc9, va9, vl9, vc9⟩ (flatOut j).how)) j' ⟨k9, h9, s9, la9, ll9, lc9, ka9, kl9, kc9, va9, vl9, vc9⟩ :=
    fun j' hj => (HV2 j' hj).go (fun b hb => resStored_block (by have := hb.1; omega)) (fun b hb => ⟨by have := hb.1; omega, by rw [resStored_size]; exact hb.2⟩)
  show DoorOut w (flatOut j) (.returned (resVal ⟨k9, h9, s9, la9, ll9, lc9, ka9, kl9, kc9, va9, vl9, vc9⟩ (flatOut j).how)) (resStored w4 (w.heap.size + 1) ⟨k9, h9, s9, la9, ll9, lc9, ka9, kl9, kc9, va9, vl9, vc9⟩ (flatOut j).how)
  generalize flatOut j = o at hz2 hfin hV3 ⊢
  cases o with
  | silent => exact absurd rfl hz2
  | raises => exact ⟨_, rfl, hfin⟩
  | value j' => exact ⟨_, rfl, hV3 j' rfl, hfin⟩
end Go.Proofs.YtinmcopamjjlbaaGreatDoor
