/- A part of the proof. -/
import Derived.Test.YtfgmegfgifeaiaaGreatDoorZCall
import Derived.Test.YtfgmegfgifeaiaaGreatDoorZSFlat
namespace Go.Proofs.YtfgmegfgifeaiaaGreatDoor
open Go.RowKit

/-- What a function of the specification gives, its value in blocks of S or in new memory. -/
def SpecIn (S : Nat → Prop) (w : World) (o : Out) (e : Ending) (w' : World) : Prop :=
  ∃ c, e = .returned (.tuple #[VC.val c, .int .i64 o.how]) ∧ (∀ j, o = .value j → VR w' (fun b => S b ∨ New w.heap.size w' b) j c) ∧ Below w.heap.size w w'

theorem spec_in {S : Nat → Prop} {w w1 : World} {N lo : Nat} (c : VC) (o : Out) (hb : Below w.heap.size w w1) (hN : w.heap.size ≤ N) (hlo : N < lo) (hS : ∀ b, S b → b < w.heap.size) (hv : ∀ j, o = .value j → VR w1 (fun b => S b ∨ New lo w1 b) j c) :
    SpecIn S w o (.returned (.tuple #[c.val, .int .i64 o.how])) (valStored w1 N c) :=
  ⟨c, rfl, fun j hj => (hv j hj).go (fun b hb' => valStored_block (by rcases hb' with h | h; have := hS b h; omega; have := h.1; omega)) (fun b hb' => hb'.imp (fun h => h) (fun h => ⟨by have := h.1; omega, by rw [valStored_size]; exact h.2⟩)), valStored_below hb hN⟩

theorem silent_in {S : Nat → Prop} {w w' : World} (hb : Below w.heap.size w w') {o : Out} (ho : ∀ j, o ≠ .value j) {n : Int} (hn : n = o.how) : SpecIn S w o (.returned (.tuple #[VC.nil.val, .int .i64 n])) w' :=
  ⟨VC.nil, by rw [hn], fun j hj => absurd hj (ho j), hb⟩

theorem JOK.arr0 : JOK (.arr []) := by
  rw [JOK]
  refine ⟨by simp [J.half], by simp [J.text, ByteArray.size], by simp [J.list], by simp [J.ents], fun i hi => ?_, fun i hi => ?_, fun i hi => ?_, fun i hi => ?_⟩
  · simp [J.list] at hi
  · simp [J.ents] at hi
  · simp [J.ents] at hi
  · simp [J.ents] at hi
theorem VR.arr0 (w : World) : VR w (fun _ => False) (.arr []) {VC.nil with k := 5} := by
  rw [VR]
  refine ⟨⟨rfl, rfl, rfl, rfl, rfl, rfl, Nat.le_refl _, Nat.le_refl _, Nat.le_refl _, fun _ => rfl, fun _ => rfl, fun _ => rfl⟩, fun i hi => ?_, fun i hi => ?_, fun i hi => ?_⟩
  · simp [J.list] at hi
  · simp [J.ents] at hi
  · simp [J.ents] at hi

set_option maxRecDepth 100000 in
/-- spec.Call without arguments answers as alone does. -/
theorem Call_alone {S : Nat → Prop} (j : J) (o : Out) (a : VC) {w : World} (hj : JOK j) (ha : VR w S j a) (hS : ∀ b, S b → b < w.heap.size)
    (hal : ∀ w', VR w' S j a → w.heap.size ≤ w'.heap.size → Calls Tryz.prog 24 #[.string ⟨#[102, 108, 97, 116, 116, 101, 110]⟩, a.val] w' (SpecIn S w' o)) :
    Calls Tryz.prog 10 #[.string ⟨#[102, 108, 97, 116, 116, 101, 110]⟩, a.val, .slice none 0 0] w (SpecIn S w o) := by
  have B0 := box_alloc w a
  have b1 : Below w.heap.size w ((w.alloc (.cells a.arr 26)).alloc (.cells VC.nil.arr 26)) := ((Below.refl _ _).alloc (Nat.le_refl _) _).alloc (by simp) _
  have bx0 : Box ((w.alloc (.cells a.arr 26)).alloc (.cells VC.nil.arr 26)) w.heap.size a := B0.below ((Below.refl (w.heap.size + 1) _).alloc (by simp) _) (by omega)
  have bx1 : Box ((w.alloc (.cells a.arr 26)).alloc (.cells VC.nil.arr 26)) (w.heap.size + 1) VC.nil := by
    have := box_alloc (w.alloc (.cells a.arr 26)) VC.nil
    simp only [World.size_alloc] at this
    exact this
  have ha2 := ha.go (fun b h => b1.block b (hS b h)) (fun _ h => h) (w' := (w.alloc (.cells a.arr 26)).alloc (.cells VC.nil.arr 26)) (S' := S)
  have V1 := Lib.hid (Vague_any (SizeOf.sizeOf j) j a _ S (Nat.le_refl _) hj ha2 (fun b h => Nat.lt_of_lt_of_le (hS b h) b1.size))
  have HB1 := Lib.hid b1; have BX0 := Lib.hid bx0; have BX1 := Lib.hid bx1
  have HA := Lib.hid ha; have HS := Lib.hid hS; have AL := Lib.hid hal
  clear B0 b1 bx0 bx1 ha2 ha hS hj hal
  obtain ⟨k0, h0, s0, la, ll, lc, ka, kl, kc, va, vl, vc⟩ := a
  unfold VC.val VC.arr VC.nil at *
  go_enter Tryz.func10, Tryz.ntmps10
  go_wp2_with fail
  refine V1.out.mono ?_
  rintro e w1 ⟨rfl, hb2⟩
  have HB2 := Lib.hid hb2
  clear hb2
  go_wp2_with fail
  refine (Array_any _ _ _ w1).mono ?_
  rintro e w2 ⟨rfl, hb3⟩
  have HB3 := Lib.hid hb3
  clear hb3
  have V2 := Lib.hid (Vague_any _ (.arr []) _ w2 _ (Nat.le_refl _) JOK.arr0 (VR.arr0 w2) (fun b h => h.elim))
  unfold VC.val VC.arr VC.nil at V2 ⊢
  have W2 := Lib.hid ((HB1.out.trans (HB2.out.mono HB1.out.size)).trans (HB3.out.mono (Nat.le_trans HB1.out.size HB2.out.size)))
  go_wp2_with fail
  refine V2.out.mono ?_
  rintro e w3 ⟨rfl, hb4⟩
  have W3 := Lib.hid (W2.out.trans (hb4.mono W2.out.size))
  have m1 : w.heap.size + 2 ≤ w1.heap.size := by have := HB2.out.size; simpa using this
  have m2 := HB3.out.size
  have m3 := hb4.size
  have bt : Below (w.heap.size + 2) ((w.alloc (.cells #[.int .i64 k0, .int .i64 h0, .string s0, .slice la ll lc, .slice ka kl kc, .slice va vl vc] 26)).alloc (.cells #[.int .i64 0, .int .i64 0, .string ByteArray.empty, .slice none 0 0, .slice none 0 0, .slice none 0 0] 26)) w3 :=
    ((HB2.out.mono (by simp)).trans (HB3.out.mono (by omega))).trans (hb4.mono (by omega))
  have b0 := BX0.out.below bt (by omega)
  have q0 := b0.c0; have q1 := b0.c1; have q2 := b0.c2; have q3 := b0.c3; have q4 := b0.c4; have q5 := b0.c5
  have BT := Lib.hid bt
  have L := Lib.hid (fun w' (hb : Below w3.heap.size w3 w') => AL.out w' (HA.out.go (fun b h => (W3.out.trans (hb.mono W3.out.size)).block b (HS.out b h)) (fun _ h => h)) (Nat.le_trans W3.out.size hb.size))
  clear hb4 bt b0
  go_wp2_with fail
  refine (L.out _ ?_).mono ?_
  · exact Below.refl _ _
  rintro e w4 ⟨c9, rfl, hv, hb5⟩
  have bx := BX1.out.below (BT.out.trans (hb5.mono (by omega))) (by omega)
  clear q0 q1 q2 q3 q4 q5
  have q0 := bx.c0; have q1 := bx.c1; have q2 := bx.c2; have q3 := bx.c3; have q4 := bx.c4; have q5 := bx.c5; have qf := bx.fr; have lt := bx.lt
  have HB5 := Lib.hid hb5; have HV := Lib.hid hv
  clear bx hb5 hv
  obtain ⟨k9, h9, s9, la9, ll9, lc9, ka9, kl9, kc9, va9, vl9, vc9⟩ := c9
  unfold VC.val VC.arr
  go_wp2_with fail
  refine bodyPost_ret (v := .tuple #[.agg #[.int .i64 k9, .int .i64 h9, .string s9, .slice la9 ll9 lc9, .slice ka9 kl9 kc9, .slice va9 vl9 vc9], .int .i64 o.how]) (by simp [results, Tryz.results10, go_sem, q0, q1, q2, q3, q4, q5]) rfl ?_
  exact spec_in (w := w) (w1 := w4) (N := w.heap.size + 1) (lo := w3.heap.size) ⟨k9, h9, s9, la9, ll9, lc9, ka9, kl9, kc9, va9, vl9, vc9⟩ o (W3.out.trans (HB5.out.mono W3.out.size)) (by omega) (by omega) HS.out HV.out

/-- What flatten answers. -/
def flatOut : J → Out
  | .arr l => .value (.arr (flatJ (.arr l)))
  | .obj _ => .silent
  | _ => .raises

/-- A box for the argument, one for the result. -/
theorem box_pair (w : World) (a : VC) : Below w.heap.size w ((w.alloc (.cells a.arr 26)).alloc (.cells VC.nil.arr 26)) ∧
    Box ((w.alloc (.cells a.arr 26)).alloc (.cells VC.nil.arr 26)) w.heap.size a ∧
    Box ((w.alloc (.cells a.arr 26)).alloc (.cells VC.nil.arr 26)) (w.heap.size + 1) VC.nil := by
  refine ⟨((Below.refl _ _).alloc (Nat.le_refl _) _).alloc (by simp) _, ?_, ?_⟩
  · exact (box_alloc w a).below ((Below.refl (w.heap.size + 1) _).alloc (by simp) _) (by omega)
  · have := box_alloc (w.alloc (.cells a.arr 26)) VC.nil
    simp only [World.size_alloc] at this
    exact this

set_option maxRecDepth 100000 in
set_option maxHeartbeats 1000000 in
theorem sarray_flat_arr {S : Nat → Prop} (l : List J) (a : VC) {w : World} (hn : (J.arr l).n ≤ 400) (ha : VR w S (.arr l) a) (hS : ∀ b, S b → b < w.heap.size) :
    Calls Tryz.prog 44 #[.string ⟨#[102, 108, 97, 116, 116, 101, 110]⟩, a.val] w (SpecIn S w (.value (.arr (flatJ (.arr l))))) := by
  obtain ⟨hb0, bx0, bx1⟩ := box_pair w a
  have hh := ha.head
  have hk := hh.k; have hll := hh.ll
  obtain ⟨k0, h0, s0, la, ll, lc, ka, kl, kc, va, vl, vc⟩ := a
  simp only [J.kind, J.list] at hk hll
  subst hk hll
  have hV := ha
  rw [VR] at hV
  have F := Lib.hid (SFlat_any _ l la lc ((w.alloc (.cells (VC.arr ⟨5, h0, s0, la, l.length, lc, ka, kl, kc, va, vl, vc⟩) 26)).alloc (.cells VC.nil.arr 26)) S (-1) (Nat.le_refl _) hn (by omega) (by omega) (fun b h => Nat.lt_of_lt_of_le (hS b h) hb0.size)
    (fun i hi => by
      obtain ⟨b, o, x, h1, h2, h3, h4⟩ := hV.2.1 i hi
      exact ⟨b, o, x, h1, h2, h3.below hb0 (hS b h2), h4.go (fun b h => hb0.block b (hS b h)) (fun _ h => h)⟩))
  have HB0 := Lib.hid hb0; have BX := Lib.hid bx1; have HS := Lib.hid hS
  clear hV hb0 bx0 bx1 hh ha hn hS
  unfold VC.val VC.arr VC.nil at *
  go_enter Tryz.func44, Tryz.ntmps44
  go_wp2_with fail
  refine F.out.mono ?_
  rintro e w1 ⟨v, xs, rfl, hR, hb1⟩
  obtain ⟨a1, cap1, rfl⟩ := hR.form
  have HR := Lib.hid hR; have HB1 := Lib.hid hb1
  clear hR hb1
  go_wp2_with fail
  refine (Array_any _ _ _ w1).mono ?_
  rintro e w2 ⟨rfl, hb2⟩
  have bx := BX.out.below (HB1.out.trans (hb2.mono HB1.out.size)) (by simp)
  have q0 := bx.c0; have q1 := bx.c1; have q2 := bx.c2; have q3 := bx.c3; have q4 := bx.c4; have q5 := bx.c5; have qf := bx.fr; have lt := bx.lt
  have HB2 := Lib.hid hb2
  clear bx hb2
  unfold VC.val VC.arr VC.nil
  go_wp2_with fail
  refine bodyPost_ret (v := .tuple #[.agg #[.int .i64 5, .int .i64 0, .string ByteArray.empty, .slice a1 (flatJ (.arr l)).length cap1, .slice none 0 0, .slice none 0 0], .int .i64 0]) (by simp [results, Tryz.results44, go_sem, q0, q1, q2, q3, q4, q5]) rfl ?_
  have hR := HR.out.below HB2.out (fun b hb => by have := HS.out b hb; have := HB1.out.size; simp at this; omega)
  have hv := hR.vr ⟨5, 0, ByteArray.empty, a1, (flatJ (.arr l)).length, cap1, none, 0, 0, none, 0, 0⟩ rfl rfl rfl rfl rfl rfl rfl rfl rfl rfl rfl
  exact spec_in (w := w) (w1 := w2) (N := w.heap.size + 1) (lo := w.heap.size + 1 + 1) ⟨5, 0, ByteArray.empty, a1, (flatJ (.arr l)).length, cap1, none, 0, 0, none, 0, 0⟩ (.value (.arr (flatJ (.arr l)))) ((HB0.out.trans (HB1.out.mono HB0.out.size)).trans (HB2.out.mono (Nat.le_trans HB0.out.size HB1.out.size))) (by omega) (by omega) HS.out
    (fun j hj => by cases hj; exact hv.mono (fun b hb => hb.imp (fun h => h) (fun h => ⟨by have := h.1; simp at this; omega, h.2⟩)))

set_option maxRecDepth 100000 in
set_option maxHeartbeats 1000000 in
theorem sarray_flat_other {S : Nat → Prop} (a : VC) {w : World} (o : Out) (ho : ∀ j, o ≠ .value j) (h : (a.k = 6 ∧ o.how = 2) ∨ ((a.k = 0 ∨ a.k = 1 ∨ a.k = 2 ∨ a.k = 3 ∨ a.k = 4) ∧ o.how = 1)) :
    Calls Tryz.prog 44 #[.string ⟨#[102, 108, 97, 116, 116, 101, 110]⟩, a.val] w (SpecIn S w o) := by
  have HO := Lib.hid ho
  clear ho
  obtain ⟨k0, h0, s0, la, ll, lc, ka, kl, kc, va, vl, vc⟩ := a
  simp only at h
  unfold VC.val VC.arr
  rcases h with ⟨rfl, hw⟩ | ⟨rfl | rfl | rfl | rfl | rfl, hw⟩
  all_goals
    have HW := Lib.hid hw
    clear hw
    go_enter Tryz.func44, Tryz.ntmps44
    go_wp2_with fail
    refine bodyPost_ret (v := .tuple #[.agg #[.int .i64 0, .int .i64 0, .string ByteArray.empty, .slice none 0 0, .slice none 0 0, .slice none 0 0], .int .i64 _]) (by simp [results, Tryz.results44, go_sem]; exact ⟨rfl, rfl⟩) rfl ?_
    exact silent_in (((Below.refl _ _).alloc (Nat.le_refl _) _).alloc (by simp) _) HO.out HW.out.symm

theorem sarray_flat {S : Nat → Prop} (j : J) (a : VC) {w : World} (hn : j.n ≤ 400) (ha : VR w S j a) (hS : ∀ b, S b → b < w.heap.size) :
    Calls Tryz.prog 44 #[.string ⟨#[102, 108, 97, 116, 116, 101, 110]⟩, a.val] w (SpecIn S w (flatOut j)) := by
  have h1 := ha.head.k
  cases j with
  | arr l => exact sarray_flat_arr l a hn ha hS
  | obj m => exact sarray_flat_other a _ (fun j h => by cases h) (Or.inl ⟨h1, rfl⟩)
  | null => exact sarray_flat_other a _ (fun j h => by cases h) (Or.inr ⟨Or.inl h1, rfl⟩)
  | bool b =>
    refine sarray_flat_other a _ (fun j h => by cases h) (Or.inr ⟨?_, rfl⟩)
    cases b
    · exact Or.inr (Or.inl h1)
    · exact Or.inr (Or.inr (Or.inl h1))
  | num h => exact sarray_flat_other a _ (fun j h => by cases h) (Or.inr ⟨Or.inr (Or.inr (Or.inr (Or.inl h1))), rfl⟩)
  | str h => exact sarray_flat_other a _ (fun j h => by cases h) (Or.inr ⟨Or.inr (Or.inr (Or.inr (Or.inr h1))), rfl⟩)

set_option maxRecDepth 100000 in
theorem alone_flat {S : Nat → Prop} (j : J) (a : VC) {w : World} (hn : j.n ≤ 400) (ha : VR w S j a) (hS : ∀ b, S b → b < w.heap.size) :
    Calls Tryz.prog 24 #[.string ⟨#[102, 108, 97, 116, 116, 101, 110]⟩, a.val] w (SpecIn S w (flatOut j)) := by
  obtain ⟨hb0, bx0, bx1⟩ := box_pair w a
  have H := Lib.hid (sarray_flat (S := S) j a (w := ((w.alloc (.cells a.arr 26)).alloc (.cells VC.nil.arr 26))) hn (ha.go (fun b h => hb0.block b (hS b h)) (fun _ h => h)) (fun b h => Nat.lt_of_lt_of_le (hS b h) hb0.size))
  have HB0 := Lib.hid hb0; have BX := Lib.hid bx1; have HS := Lib.hid hS
  clear hb0 bx0 bx1 ha hn hS
  generalize flatOut j = o at *
  obtain ⟨k0, h0, s0, la, ll, lc, ka, kl, kc, va, vl, vc⟩ := a
  unfold VC.val VC.arr VC.nil at *
  go_enter Tryz.func24, Tryz.ntmps24
  go_wp2_with fail
  refine H.out.mono ?_
  rintro e w1 ⟨c9, rfl, hv, hb1⟩
  have bx := BX.out.below hb1 (by simp)
  have q0 := bx.c0; have q1 := bx.c1; have q2 := bx.c2; have q3 := bx.c3; have q4 := bx.c4; have q5 := bx.c5; have qf := bx.fr; have lt := bx.lt
  have HB1 := Lib.hid hb1; have HV := Lib.hid hv
  clear bx hb1 hv
  obtain ⟨k9, h9, s9, la9, ll9, lc9, ka9, kl9, kc9, va9, vl9, vc9⟩ := c9
  unfold VC.val VC.arr
  go_wp2_with fail
  refine bodyPost_ret (v := .tuple #[.agg #[.int .i64 k9, .int .i64 h9, .string s9, .slice la9 ll9 lc9, .slice ka9 kl9 kc9, .slice va9 vl9 vc9], .int .i64 o.how]) (by simp [results, Tryz.results24, go_sem, q0, q1, q2, q3, q4, q5]) rfl ?_
  exact spec_in (w := w) (w1 := w1) (N := w.heap.size + 1) (lo := w.heap.size + 1 + 1) ⟨k9, h9, s9, la9, ll9, lc9, ka9, kl9, kc9, va9, vl9, vc9⟩ o (HB0.out.trans (HB1.out.mono HB0.out.size)) (by omega) (by omega) HS.out (fun j hj => (HV.out j hj).mono (fun b hb => hb.imp (fun h => h) (fun h => ⟨by have := h.1; simp at this; omega, h.2⟩)))

theorem Call_flat {S : Nat → Prop} (j : J) (a : VC) {w : World} (hj : JOK j) (hn : j.n ≤ 400) (ha : VR w S j a) (hS : ∀ b, S b → b < w.heap.size) :
    Calls Tryz.prog 10 #[.string ⟨#[102, 108, 97, 116, 116, 101, 110]⟩, a.val, .slice none 0 0] w (SpecIn S w (flatOut j)) :=
  Call_alone j _ a hj ha hS fun _ hv hw => alone_flat j a hn hv (fun b hb => Nat.lt_of_lt_of_le (hS b hb) hw)
end Go.Proofs.YtfgmegfgifeaiaaGreatDoor
