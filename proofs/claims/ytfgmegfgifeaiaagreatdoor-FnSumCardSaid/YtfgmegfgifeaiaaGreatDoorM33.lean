/- A part of the proof. A part of the proof. A part of the proof. A part of the proof. A part of the proof. A part of the proof. A part of the proof. A part of the proof. -/
import Derived.Test.YtfgmegfgifeaiaaGreatDoorM20
import Derived.Test.YtfgmegfgifeaiaaGreatDoorZSArr
import Derived.BigGuardPart
import Derived.Test.YtfgmegfgifeaiaaGreatDoorZWith
namespace Go.Proofs.YtfgmegfgifeaiaaGreatDoor
open Go.RowKit

/-- spec.Str. -/
theorem Str_any (s : ByteArray) (w : World) : Calls Tryz.prog 20 #[.string s] w fun e w' => e = .returned (VC.val {VC.nil with k := 4, s := s}) ∧ Below w.heap.size w w' := by
  unfold VC.val VC.arr VC.nil
  go_enter Tryz.func20, Tryz.ntmps20
  go_wp2_with fail
  exact bodyPost_ret (v := .agg #[.int .i64 4, .int .i64 0, .string s, .slice none 0 0, .slice none 0 0, .slice none 0 0]) (by simp [results, Tryz.results20, go_sem]) rfl ⟨rfl, (Below.refl _ _).alloc (Nat.le_refl _) _⟩

theorem tmod_even {h : Int} : h.tmod 2 = 0 ↔ h % 2 = 0 := by
  constructor
  · intro e
    have := Int.dvd_of_tmod_eq_zero e
    omega
  · intro e
    exact Int.tmod_eq_zero_of_dvd (by omega)

/-- spec.number. -/
theorem snumber_ok (h : Int) (ho : NumOk h) (w : World) : Calls Tryz.prog 67 #[.int .i64 h] w fun e w' => e = .returned (.tuple #[VC.val (numVC h), .int .i64 0]) ∧ Below w.heap.size w w' := by
  obtain ⟨h1, h2, h3⟩ := ho
  unfold VC.val VC.arr numVC VC.nil
  by_cases he : h.tmod 2 = 0
  · clear h3
    go_enter Tryz.func67, Tryz.ntmps67
    go_wp2_with fail
    exact bodyPost_ret (v := .tuple #[.agg #[.int .i64 3, .int .i64 h, .string ByteArray.empty, .slice none 0 0, .slice none 0 0, .slice none 0 0], .int .i64 0]) (by simp [results, Tryz.results67, go_sem]; rfl) rfl ⟨rfl, (Below.refl _ _).alloc (Nat.le_refl _) _⟩
  · have h4 : -9007199254740992 < h := by rcases h3 with h | h; exact absurd (tmod_even.2 h) he; exact h.1
    have h5 : h < 9007199254740992 := by rcases h3 with h | h; exact absurd (tmod_even.2 h) he; exact h.2
    clear h3
    go_enter Tryz.func67, Tryz.ntmps67
    go_wp2_with fail
    exact bodyPost_ret (v := .tuple #[.agg #[.int .i64 3, .int .i64 h, .string ByteArray.empty, .slice none 0 0, .slice none 0 0, .slice none 0 0], .int .i64 0]) (by simp [results, Tryz.results67, go_sem]; rfl) rfl ⟨rfl, (Below.refl _ _).alloc (Nat.le_refl _) _⟩

theorem snumber_not (h : Int) (ho : ¬ NumOk h) (hb1 : -36028797018963968 ≤ h) (hb2 : h ≤ 36028797018963968) (w : World) : Calls Tryz.prog 67 #[.int .i64 h] w fun e w' => e = .returned (.tuple #[VC.val VC.nil, .int .i64 2]) ∧ Below w.heap.size w w' := by
  unfold VC.val VC.arr VC.nil
  unfold NumOk at ho
  by_cases c1 : h < -18014398509481984
  · clear ho
    go_enter Tryz.func67, Tryz.ntmps67
    go_wp2_with fail
    exact bodyPost_ret (v := .tuple #[.agg #[.int .i64 0, .int .i64 0, .string ByteArray.empty, .slice none 0 0, .slice none 0 0, .slice none 0 0], .int .i64 2]) (by simp [results, Tryz.results67, go_sem]; rfl) rfl ⟨rfl, (Below.refl _ _).alloc (Nat.le_refl _) _⟩
  by_cases c2 : h > 18014398509481984
  · clear ho
    go_enter Tryz.func67, Tryz.ntmps67
    go_wp2_with fail
    exact bodyPost_ret (v := .tuple #[.agg #[.int .i64 0, .int .i64 0, .string ByteArray.empty, .slice none 0 0, .slice none 0 0, .slice none 0 0], .int .i64 2]) (by simp [results, Tryz.results67, go_sem]; rfl) rfl ⟨rfl, (Below.refl _ _).alloc (Nat.le_refl _) _⟩
  have he : ¬ h.tmod 2 = 0 := fun e => by have := tmod_even.1 e; omega
  have he2 : ¬ h % 2 = 0 := fun e => he (tmod_even.2 e)
  by_cases c3 : h ≤ -9007199254740992
  · clear ho
    go_enter Tryz.func67, Tryz.ntmps67
    go_wp2_with fail
    exact bodyPost_ret (v := .tuple #[.agg #[.int .i64 0, .int .i64 0, .string ByteArray.empty, .slice none 0 0, .slice none 0 0, .slice none 0 0], .int .i64 2]) (by simp [results, Tryz.results67, go_sem]; rfl) rfl ⟨rfl, (Below.refl _ _).alloc (Nat.le_refl _) _⟩
  have c4 : h ≥ 9007199254740992 := by omega
  clear ho
  go_enter Tryz.func67, Tryz.ntmps67
  go_wp2_with fail
  exact bodyPost_ret (v := .tuple #[.agg #[.int .i64 0, .int .i64 0, .string ByteArray.empty, .slice none 0 0, .slice none 0 0, .slice none 0 0], .int .i64 2]) (by simp [results, Tryz.results67, go_sem]; rfl) rfl ⟨rfl, (Below.refl _ _).alloc (Nat.le_refl _) _⟩
end Go.Proofs.YtfgmegfgifeaiaaGreatDoor

namespace Go.Proofs.YtfgmegfgifeaiaaGreatDoor
open Go.RowKit

/-- Two boxes for the arguments, one for the result. -/
theorem box_trio (w : World) (a c : VC) : Below w.heap.size w (((w.alloc (.cells a.arr 26)).alloc (.cells c.arr 26)).alloc (.cells VC.nil.arr 26)) ∧
    Box (((w.alloc (.cells a.arr 26)).alloc (.cells c.arr 26)).alloc (.cells VC.nil.arr 26)) w.heap.size a ∧ Box (((w.alloc (.cells a.arr 26)).alloc (.cells c.arr 26)).alloc (.cells VC.nil.arr 26)) (w.heap.size + 1) c ∧
    Box (((w.alloc (.cells a.arr 26)).alloc (.cells c.arr 26)).alloc (.cells VC.nil.arr 26)) (w.heap.size + 1 + 1) VC.nil := by
  refine ⟨(((Below.refl _ _).alloc (Nat.le_refl _) _).alloc (by simp) _).alloc (by simp; omega) _, ?_, ?_, ?_⟩
  · exact (box_alloc w a).below (((Below.refl (w.heap.size + 1) _).alloc (by simp) _).alloc (by simp) _) (by omega)
  · have := box_alloc (w.alloc (.cells a.arr 26)) c
    simp only [World.size_alloc] at this
    exact this.below ((Below.refl (w.heap.size + 2) _).alloc (by simp) _) (by omega)
  · have := box_alloc ((w.alloc (.cells a.arr 26)).alloc (.cells c.arr 26)) VC.nil
    simp only [World.size_alloc] at this
    exact this

/-- null and anything. -/
theorem plus_null {S : Nat → Prop} (y : J) (a c : VC) {w : World} (hk : a.k = 0) (hc : VR w S y c) (hS : ∀ b, S b → b < w.heap.size) : Calls Tryz.prog 82 #[a.val, c.val] w (SpecIn S w (.value y)) := by
  have hb0 : Below w.heap.size w (((w.alloc (.cells a.arr 26)).alloc (.cells c.arr 26)).alloc (.cells c.arr 26)) := (((Below.refl _ _).alloc (Nat.le_refl _) _).alloc (by simp) _).alloc (by simp; omega) _
  have HB := Lib.hid hb0; have HC := Lib.hid (hc.go (S' := S) (fun b h => hb0.block b (hS b h)) (fun _ h => h)); have HS := Lib.hid hS
  clear hb0 hc hS
  obtain ⟨k0, h0, s0, la, ll, lc, ka, kl, kc, va, vl, vc⟩ := a
  obtain ⟨k1, h1, s1, la1, ll1, lc1, ka1, kl1, kc1, va1, vl1, vc1⟩ := c
  simp only at hk
  subst hk
  unfold VC.val VC.arr at *
  go_enter Tryz.func82, Tryz.ntmps82
  go_wp2_with fail
  refine bodyPost_ret (v := .tuple #[.agg #[.int .i64 k1, .int .i64 h1, .string s1, .slice la1 ll1 lc1, .slice ka1 kl1 kc1, .slice va1 vl1 vc1], .int .i64 0]) (by simp [results, Tryz.results82, go_sem]) rfl ?_
  exact ⟨⟨k1, h1, s1, la1, ll1, lc1, ka1, kl1, kc1, va1, vl1, vc1⟩, rfl, (fun j hj => by cases hj; exact HC.out.mono (fun b h => Or.inl h)), HB.out⟩

/-- Anything and null. -/
theorem plus_null2 {S : Nat → Prop} (x : J) (a c : VC) {w : World} (hk0 : ¬ a.k = 0) (hk : c.k = 0) (ha : VR w S x a) (hS : ∀ b, S b → b < w.heap.size) : Calls Tryz.prog 82 #[a.val, c.val] w (SpecIn S w (.value x)) := by
  have hb0 : Below w.heap.size w (((w.alloc (.cells a.arr 26)).alloc (.cells c.arr 26)).alloc (.cells a.arr 26)) := (((Below.refl _ _).alloc (Nat.le_refl _) _).alloc (by simp) _).alloc (by simp; omega) _
  have HB := Lib.hid hb0; have HC := Lib.hid (ha.go (S' := S) (fun b h => hb0.block b (hS b h)) (fun _ h => h)); have HS := Lib.hid hS
  clear hb0 ha hS
  obtain ⟨k0, h0, s0, la, ll, lc, ka, kl, kc, va, vl, vc⟩ := a
  obtain ⟨k1, h1, s1, la1, ll1, lc1, ka1, kl1, kc1, va1, vl1, vc1⟩ := c
  simp only at hk hk0
  subst hk
  unfold VC.val VC.arr at *
  go_enter Tryz.func82, Tryz.ntmps82
  go_wp2_with fail
  refine bodyPost_ret (v := .tuple #[.agg #[.int .i64 k0, .int .i64 h0, .string s0, .slice la ll lc, .slice ka kl kc, .slice va vl vc], .int .i64 0]) (by simp [results, Tryz.results82, go_sem]) rfl ?_
  exact ⟨⟨k0, h0, s0, la, ll, lc, ka, kl, kc, va, vl, vc⟩, rfl, (fun j hj => by cases hj; exact HC.out.mono (fun b h => Or.inl h)), HB.out⟩

/-- Of two kinds, or two that are the same bool: an error. -/
theorem plus_raises {S : Nat → Prop} (a c : VC) {w : World} (hk0 : ¬ a.k = 0) (hk1 : ¬ c.k = 0) (hk : ¬ a.k = c.k ∨ (a.k = c.k ∧ (a.k = 1 ∨ a.k = 2))) : Calls Tryz.prog 82 #[a.val, c.val] w (SpecIn S w .raises) := by
  obtain ⟨hb0, _, _, _⟩ := box_trio w a c
  have HB := Lib.hid hb0
  clear hb0
  obtain ⟨k0, h0, s0, la, ll, lc, ka, kl, kc, va, vl, vc⟩ := a
  obtain ⟨k1, h1, s1, la1, ll1, lc1, ka1, kl1, kc1, va1, vl1, vc1⟩ := c
  simp only at hk hk0 hk1
  unfold VC.val VC.arr at *
  rcases hk with hk | ⟨rfl, rfl | rfl⟩
  all_goals
    go_enter Tryz.func82, Tryz.ntmps82
    go_wp2_with fail
    refine bodyPost_ret (v := .tuple #[.agg #[.int .i64 0, .int .i64 0, .string ByteArray.empty, .slice none 0 0, .slice none 0 0, .slice none 0 0], .int .i64 1]) (by simp [results, Tryz.results82, go_sem]; rfl) rfl ?_
    exact silent_in (o := .raises) HB.out (fun j h => by cases h) rfl

/-- Two numbers. -/
theorem plus_num {S : Nat → Prop} (x y : Int) (a c : VC) {w : World} (hx : NumOk x) (hy : NumOk y) (ha : VR w S (.num x) a) (hc : VR w S (.num y) c) (hS : ∀ b, S b → b < w.heap.size) : Calls Tryz.prog 82 #[a.val, c.val] w (SpecIn S w (if NumOk (x + y) then .value (.num (x + y)) else .silent)) := by
  obtain ⟨hb0, _, _, hbr⟩ := box_trio w a c
  have e1 := ha.head.k; have e2 := ha.head.h; have e3 := hc.head.k; have e4 := hc.head.h
  have HB := Lib.hid hb0; have HS := Lib.hid hS; have BR := Lib.hid hbr
  clear hb0 ha hc hS hbr
  obtain ⟨k0, h0, s0, la, ll, lc, ka, kl, kc, va, vl, vc⟩ := a
  obtain ⟨k1, h1, s1, la1, ll1, lc1, ka1, kl1, kc1, va1, vl1, vc1⟩ := c
  simp only [J.kind, J.half] at e1 e2 e3 e4
  subst e1 e2 e3 e4
  have hbx : -18014398509481984 ≤ h0 ∧ h0 ≤ 18014398509481984 := ⟨hx.1, hx.2.1⟩
  have hby : -18014398509481984 ≤ h1 ∧ h1 ≤ 18014398509481984 := ⟨hy.1, hy.2.1⟩
  obtain ⟨b1, b2⟩ := hbx
  obtain ⟨b3, b4⟩ := hby
  clear hx hy
  unfold VC.val VC.arr VC.nil at *
  by_cases ho : NumOk (h0 + h1)
  · rw [if_pos ho]
    have NN := Lib.hid (fun w' => snumber_ok (h0 + h1) ho w')
    clear ho
    unfold VC.val VC.arr numVC VC.nil at NN
    go_enter Tryz.func82, Tryz.ntmps82
    go_wp2_with fail
    refine (NN.out _).mono ?_
    rintro e w1 ⟨rfl, hb1⟩
    have HB1 := Lib.hid hb1
    have br := BR.out.below hb1 (by simp)
    have r0 := br.c0; have r1 := br.c1; have r2 := br.c2; have r3 := br.c3; have r4 := br.c4; have r5 := br.c5; have rf := br.fr; have rlt := br.lt
    simp only at r0 r1 r2 r3 r4 r5
    clear br hb1
    go_wp2_with fail
    refine bodyPost_ret (v := .tuple #[.agg #[.int .i64 3, .int .i64 (h0 + h1), .string ByteArray.empty, .slice none 0 0, .slice none 0 0, .slice none 0 0], .int .i64 0]) (by simp [results, Tryz.results82, go_sem, r0, r1, r2, r3, r4, r5]) rfl ?_
    exact spec_in (w := w) (w1 := w1) (N := w.heap.size + 1 + 1) (lo := w.heap.size + 1 + 1 + 1) (numVC (h0 + h1)) (.value (.num (h0 + h1))) (HB.out.trans (HB1.out.mono HB.out.size)) (by omega) (by omega) HS.out (fun j hj => by cases hj; exact VR.num _ _ _)
  · rw [if_neg ho]
    have NN := Lib.hid (fun w' => snumber_not (h0 + h1) ho (by omega) (by omega) w')
    clear ho
    unfold VC.val VC.arr VC.nil at NN
    go_enter Tryz.func82, Tryz.ntmps82
    go_wp2_with fail
    refine (NN.out _).mono ?_
    rintro e w1 ⟨rfl, hb1⟩
    have HB1 := Lib.hid hb1
    have br := BR.out.below hb1 (by simp)
    have r0 := br.c0; have r1 := br.c1; have r2 := br.c2; have r3 := br.c3; have r4 := br.c4; have r5 := br.c5; have rf := br.fr; have rlt := br.lt
    simp only at r0 r1 r2 r3 r4 r5
    clear br hb1
    go_wp2_with fail
    refine bodyPost_ret (v := .tuple #[.agg #[.int .i64 0, .int .i64 0, .string ByteArray.empty, .slice none 0 0, .slice none 0 0, .slice none 0 0], .int .i64 2]) (by simp [results, Tryz.results82, go_sem, r0, r1, r2, r3, r4, r5]) rfl ?_
    exact spec_in (w := w) (w1 := w1) (N := w.heap.size + 1 + 1) (lo := w.heap.size + 1 + 1 + 1) VC.nil .silent (HB.out.trans (HB1.out.mono HB.out.size)) (by omega) (by omega) HS.out (fun j hj => by cases hj)

/-- Two texts. -/
theorem plus_str {S : Nat → Prop} (x y : ByteArray) (a c : VC) {w : World} (hl : x.size + y.size ≤ 4000000) (ha : VR w S (.str x) a) (hc : VR w S (.str y) c) (hS : ∀ b, S b → b < w.heap.size) : Calls Tryz.prog 82 #[a.val, c.val] w (SpecIn S w (.value (.str (x ++ y)))) := by
  obtain ⟨hb0, _, _, hbr⟩ := box_trio w a c
  have e1 := ha.head.k; have e2 := ha.head.s; have e3 := hc.head.k; have e4 := hc.head.s
  have HB := Lib.hid hb0; have HS := Lib.hid hS; have BR := Lib.hid hbr
  clear hb0 ha hc hS hbr
  obtain ⟨k0, h0, s0, la, ll, lc, ka, kl, kc, va, vl, vc⟩ := a
  obtain ⟨k1, h1, s1, la1, ll1, lc1, ka1, kl1, kc1, va1, vl1, vc1⟩ := c
  simp only [J.kind, J.text] at e1 e2 e3 e4
  subst e1 e2 e3 e4
  unfold VC.val VC.arr VC.nil at *
  have NN := Lib.hid (fun w' => Str_any (s0 ++ s1) w')
  unfold VC.val VC.arr VC.nil at NN
  go_enter Tryz.func82, Tryz.ntmps82
  go_wp2_with fail
  refine (NN.out _).mono ?_
  rintro e w1 ⟨rfl, hb1⟩
  have HB1 := Lib.hid hb1
  have br := BR.out.below hb1 (by simp)
  have r0 := br.c0; have r1 := br.c1; have r2 := br.c2; have r3 := br.c3; have r4 := br.c4; have r5 := br.c5; have rf := br.fr; have rlt := br.lt
  simp only at r0 r1 r2 r3 r4 r5
  clear br hb1
  go_wp2_with fail
  refine bodyPost_ret (v := .tuple #[.agg #[.int .i64 4, .int .i64 0, .string (s0 ++ s1), .slice none 0 0, .slice none 0 0, .slice none 0 0], .int .i64 0]) (by simp [results, Tryz.results82, go_sem, r0, r1, r2, r3, r4, r5]) rfl ?_
  exact spec_in (w := w) (w1 := w1) (N := w.heap.size + 1 + 1) (lo := w.heap.size + 1 + 1 + 1) {VC.nil with k := 4, s := s0 ++ s1} (.value (.str (s0 ++ s1))) (HB.out.trans (HB1.out.mono HB.out.size)) (by omega) (by omega) HS.out (fun j hj => by cases hj; exact VR.str _ _ _)
end Go.Proofs.YtfgmegfgifeaiaaGreatDoor

namespace Go.Proofs.YtfgmegfgifeaiaaGreatDoor
open Go.RowKit

theorem setRow_below {B N : Nat} {a w : World} {cs : Array Value} (h : Below B a w) (hB : B ≤ N) : Below B a (w.setRow N cs) := ⟨h.os, h.tape, h.output, by rw [size_setRow]; exact h.size, fun b hb => (setRow_other w N b cs (by omega)).trans (h.block b hb)⟩
theorem Box.row {w : World} {N : Nat} {c : VC} (x : VC) (h : Box w N c) : Box (w.setRow N x.arr) N x := setRow_heap w N c.arr x.arr 26 (0, 0) h

theorem field3 (N : Nat) (w : World) : (Instr.fieldAt 26 (.pointer (some ⟨N, 0, none⟩)) 3).run Tryz.prog w = .ok (.pointer (some ⟨N, 3, none⟩)) w := by
  go_simp
theorem arr_one (c : VC) : c.arr.all (·.oneCell') = true := by simp [VC.arr, Value.oneCell']

/-- An array read off a row that a call owns. -/
theorem arr_read {w : World} {lo : Nat} {S : Nat → Prop} {l : List J} {ys : List VC} {la : Option Addr} {ll lc : Nat} (hv : w.ownsRow lo 26 6 (.slice la ll lc) ll (cellsOf ys))
    (hy : ys.length = l.length) (rd : ∀ i (_ : i < l.length) (h : i < ys.length), VR w S l[i] ys[i]) : VR w (fun b => S b ∨ New lo w b) (.arr l) ⟨5, 0, ByteArray.empty, la, ll, lc, none, 0, 0, none, 0, 0⟩ := by
  have hll : ll = l.length := by have := hv.1; rw [cellsOf_length] at this; omega
  rw [VR]
  refine ⟨⟨rfl, rfl, rfl, hll, rfl, rfl, own_cap hv, Nat.le_refl _, Nat.le_refl _, own_none hv, fun _ => rfl, fun _ => rfl⟩, fun i hi => ?_, fun i hi => ?_, fun i hi => ?_⟩
  · have hi' : i < l.length := hi
    have hx' : i < ys.length := by omega
    obtain ⟨g, cap', e, hg, hlt⟩ := hv.form (by omega)
    cases e
    have h6 := row_at6 hv (g := g) rfl hx'
    exact ⟨g, 0, ys[i], rfl, Or.inr ⟨hg, hlt⟩, by simpa using h6, (rd i hi' hx').mono (fun b hb => Or.inl hb)⟩
  · simp [J.ents] at hi
  · simp [J.ents] at hi

/-- The elements of an array as a row of cells. -/
theorem vr_arr {w : World} {S : Nat → Prop} {l : List J} {c : VC} (h : VR w S (.arr l) c) :
    ∃ xs : List VC, xs.length = l.length ∧ (∀ i (_ : i < l.length) (hx : i < xs.length), VR w S l[i] xs[i]) ∧ Lies w c.la (cellsOf xs) ∧ ∀ b o, c.la = some ⟨b, o, none⟩ → l ≠ [] → S b := by
  rw [VR] at h
  obtain ⟨_, hv, _, _⟩ := h
  have hv' : ∀ i (_ : i < l.length), ∃ b o x, c.la = some ⟨b, o, none⟩ ∧ S b ∧ At6 w b (o + i * 6) x ∧ VR w S l[i] x := hv
  obtain ⟨xs, hxl, hf⟩ := choose_list l.length (fun i x => ∃ b o, c.la = some ⟨b, o, none⟩ ∧ S b ∧ At6 w b (o + i * 6) x ∧ ∀ h : i < l.length, VR w S l[i] x) (fun i h => by
    obtain ⟨b, o, x, h1, h2, h3, h4⟩ := hv' i h
    exact ⟨x, b, o, h1, h2, h3, fun _ => h4⟩)
  refine ⟨xs, hxl, fun i hi hx => ?_, fun j u hj => ?_, fun b o e hne => ?_⟩
  · obtain ⟨_, _, _, _, _, h4⟩ := hf i hx
    exact h4 hi
  · have hjl := (List.getElem?_eq_some_iff.1 hj).1
    rw [cellsOf_length] at hjl
    have hx : j / 6 < xs.length := by omega
    have hq : j % 6 < 6 := Nat.mod_lt _ (by decide)
    have ej : j / 6 * 6 + j % 6 = j := by omega
    have hu := cellsOf_get xs hx hq
    rw [ej, hj] at hu
    obtain ⟨b, o, h1, _, h3, _⟩ := hf (j / 6) hx
    refine ⟨b, o, h1, ?_⟩
    have ea : o + j = o + j / 6 * 6 + j % 6 := by omega
    rw [ea]
    generalize j % 6 = q at hu hq
    have h0 := h3.c0; have h4 := h3.c1; have h5 := h3.c2; have h6 := h3.c3; have h7 := h3.c4; have h8 := h3.c5
    unfold VC.arr at hu
    rcases q with _ | _ | _ | _ | _ | _ | q
    all_goals first | omega | (simp at hu; rw [hu]; assumption)
  · obtain ⟨p, q, rfl⟩ := List.exists_cons_of_ne_nil hne
    obtain ⟨b', o', x, h1, h2, _⟩ := hv' 0 (by simp)
    rw [e] at h1; cases h1; exact h2

theorem src_all {w : World} {a : Option Addr} {size len cap : Nat} {cs : List Value} (h : Lies w a cs) (hl : cs.length = len * size) (hc : len ≤ cap) (hz : a = none → cap = 0) : Src w size (.slice a len cap) len cs := by
  cases a with
  | none =>
    have h0 := hz rfl
    subst h0
    obtain rfl : len = 0 := by omega
    exact Or.inl ⟨rfl, rfl, List.eq_nil_of_length_eq_zero (by simpa using hl)⟩
  | some ad =>
    refine Or.inr ⟨ad, cap, rfl, hl, fun j u hj => ?_⟩
    obtain ⟨b, o, e, hcell⟩ := h j u hj
    cases e
    rw [addr_add]
    exact hcell

section
variable {news : List (Nat × Tmp)} {olds : List (Tmp × Value)} {L : List KnE} {w0 : World} {i : Nat} {o : Oper}
/-- An array over a row that another operation has made. -/
theorem kn_arr {base n : Nat} {e' : Option Nat} {xs : List Value} (js : Nat) (s : Tmp) (ts : Array TypeId) (hf : Enters Tryz.prog 23) (hL : L[i]? = some (.arr js base n xs)) (ho : o.op = .call { callee := .value (.func 23), args := #[.tmp s], argTypes := ts })
    (hs : (js, s) ∈ news) (hjs : L[js]? = some (.row e' base 26 6 n xs)) (hws : waitsB o js = true) : StepOKE Tryz.prog news olds (knE L) w0 i o := by
  unfold StepOKE
  rw [knE_at hL]
  refine ⟨fun j hj d hd => ?_, ?_⟩
  · cases hj
    obtain ⟨e1, h4, h5, h6⟩ := waits_of hws
    rw [← h6]; exact hd e1 h4 h5
  intro Q d u S w b K hp hdi hR hd he hK
  obtain ⟨hdj, hlj⟩ := he js rfl
  obtain ⟨⟨hown, hSg⟩, _⟩ := hp.val js none e' (RowIs base 26 6 n xs) (by rw [knE_at hjs]; rfl) hdj hlj
  obtain ⟨p, q, hv⟩ := row_form hown
  have es := (hR.1 _ hs).trans hv
  rw [hv] at hown hSg
  refine wp_call_fn 23 _ ts #[.slice p n q] hf ho (by simp only [List.map_toArray, List.map_cons, List.map_nil, es]) ((Array_any p n q w).mono ?_)
  rintro e w' ⟨rfl, hb⟩
  refine ⟨_, rfl, hK.out _ (fun g => (Value.slice p n q).ownBlock = some g) w' (Value.slice p n q).ownBlock (grown_of_below0 hb _) (fun b h => Or.inr ⟨js, rfl, hSg b h⟩) ⟨p, q, rfl, row_below hown hb, fun g hg => hg⟩ (fun g hg => ⟨Or.inr hg, Nat.lt_of_lt_of_le (hown.lt g hg).2 hb.size⟩)⟩
end

theorem wp_assign {P : Program} {o : Oper} {a : Act} {w : World} {K : Act → World → Prop} {Q : Exit → Act → World → Prop} (x : Operand) (v : Value) (ho : o.op = .assign x) (hx : a.eval x = v) (h : K (a.put o.dst v) w) : o.wp P a w K Q := by
  subst hx
  unfold Oper.wp execOp
  simp only [ho]
  exact h

theorem row_end {w w' : World} {S : Nat → Prop} {l : List J} {ys : List VC} {la : Option Addr} {ll lc N lo : Nat} {c : VC} (hlow : Below w.heap.size w w') (hN : w.heap.size ≤ N) (hlo : N < lo) (hS : ∀ b, S b → b < w.heap.size) (hbx : Box w' N c) (hv : w'.ownsRow lo 26 6 (.slice la ll lc) ll (cellsOf ys))
    (hy : ys.length = l.length) (rd : ∀ i (_ : i < l.length) (h : i < ys.length), VR w' S l[i] ys[i]) : ∃ x : VC, x = ⟨5, 0, ByteArray.empty, la, ll, lc, none, 0, 0, none, 0, 0⟩ ∧ Box (w'.setRow N x.arr) N x ∧ Below w.heap.size w (w'.setRow N x.arr) ∧ VR (w'.setRow N x.arr) (fun b => S b ∨ New w.heap.size (w'.setRow N x.arr) b) (.arr l) x :=
  ⟨_, rfl, hbx.row _, setRow_below hlow hN, (arr_read hv hy rd).go (fun b hb => setRow_other _ _ _ _ (by rcases hb with h | h; have := hS b h; omega; have := h.1; omega)) (fun b hb => hb.imp (fun h => h) (fun h => ⟨by have := h.1; omega, by rw [size_setRow]; exact h.2⟩))⟩
end Go.Proofs.YtfgmegfgifeaiaaGreatDoor

namespace Go.Proofs.YtfgmegfgifeaiaaGreatDoor
open Go.RowKit

set_option maxRecDepth 100000 in
set_option maxHeartbeats 4000000 in
/-- Two arrays. -/
theorem plus_arr {S : Nat → Prop} (l m : List J) (a c : VC) {w : World} (hl : l.length ≤ 400) (hm : m.length ≤ 400) (ha : VR w S (.arr l) a) (hc : VR w S (.arr m) c) (hS : ∀ b, S b → b < w.heap.size) : Calls Tryz.prog 82 #[a.val, c.val] w (SpecIn S w (.value (.arr (l ++ m)))) := by
  obtain ⟨i0, hi, hz0, hz1, hz2⟩ := info_parts info_value
  obtain ⟨xs, hxl, hxr, hxa, hxS⟩ := vr_arr ha
  obtain ⟨ys, hyl, hyr, hya, hyS⟩ := vr_arr hc
  obtain ⟨hb0, hba, hbc, hbr⟩ := box_trio w a c
  have hh := ha.head; have hg := hc.head
  have e1 := hh.k; have e2 := hg.k; have e3 := hh.ll; have e4 := hg.ll
  have ac := hh.lc; have cc := hg.lc; have an := hh.ln; have cn := hg.ln
  simp only [J.kind, J.list] at e1 e2 e3 e4
  obtain ⟨WA, hWA⟩ : ∃ WA, WA = (((w.alloc (.cells a.arr 26)).alloc (.cells c.arr 26)).alloc (.cells VC.nil.arr 26)) := ⟨_, rfl⟩
  rw [← hWA] at hb0 hba hbc hbr
  have hsz : w.heap.size + 1 + 1 < WA.heap.size := hbr.lt
  have hSz := Lib.hid hsz
  have HB := Lib.hid hb0; have BA := Lib.hid hba; have BC := Lib.hid hbc; have BR := Lib.hid hbr; have HS := Lib.hid hS
  have HXL := Lib.hid hxl; have HYL := Lib.hid hyl; have HXR := Lib.hid hxr; have HYR := Lib.hid hyr
  have LX := Lib.hid (hxa.keep (w' := WA) fun b o e hne => hb0.block b (hS b (hxS b o e (fun h => hne (by rw [h] at hxl; rw [List.eq_nil_of_length_eq_zero hxl]; rfl)))))
  have LY := Lib.hid (hya.keep (w' := WA) fun b o e hne => hb0.block b (hS b (hyS b o e (fun h => hne (by rw [h] at hyl; rw [List.eq_nil_of_length_eq_zero hyl]; rfl)))))
  have SX := Lib.hid fun b o (e : a.la = some ⟨b, o, none⟩) (hne : cellsOf xs ≠ []) => hS b (hxS b o e (fun h => hne (by rw [h] at hxl; rw [List.eq_nil_of_length_eq_zero hxl]; rfl)))
  have SY := Lib.hid fun b o (e : c.la = some ⟨b, o, none⟩) (hne : cellsOf ys ≠ []) => hS b (hyS b o e (fun h => hne (by rw [h] at hyl; rw [List.eq_nil_of_length_eq_zero hyl]; rfl)))
  have I0 := Lib.hid hi; have I1 := Lib.hid hz0; have I2 := Lib.hid hz1; have I3 := Lib.hid hz2
  clear hi hz0 hz1 hz2 hxl hyl hxr hyr hxa hya hxS hyS hb0 hba hbc hbr hS hh hg ha hc hsz
  obtain ⟨k0, h0, s0, la, ll, lc, ka, kl, kc, va, vl, vc⟩ := a
  obtain ⟨k1, h1, s1, la1, ll1, lc1, ka1, kl1, kc1, va1, vl1, vc1⟩ := c
  simp only at e1 e2 e3 e4 ac cc an cn LX LY SX SY
  subst e1 e2 e3 e4
  have LENx : Hid ((cellsOf xs).length = l.length * 6) := Lib.hid (by rw [cellsOf_length, HXL.out])
  have LENy : Hid ((cellsOf ys).length = m.length * 6) := Lib.hid (by rw [cellsOf_length, HYL.out])
  have AC := Lib.hid ac; have CC := Lib.hid cc; have AN := Lib.hid an; have CN := Lib.hid cn
  have ONEx := Lib.hid (cells_one xs); have ONEy := Lib.hid (cells_one ys)
  clear ac cc an cn
  unfold VC.val VC.arr VC.nil at *
  go_enter Tryz.func82, Tryz.ntmps82
  go_upto_region 13 with fail
  rw [show ByteArray.mk #[] = ByteArray.empty from rfl, ← hWA]
  clear hWA
  go_cut [5] (fun s wx => s = .int .i64 0 ∧ ∃ x, Box wx (w.heap.size + 1 + 1) x ∧ Below w.heap.size w wx ∧ VR wx (fun b => S b ∨ New w.heap.size wx b) (.arr (l ++ m)) x)
  case first =>
    rename_i J9 K9 hJ hM
    obtain ⟨base, hbase⟩ : ∃ base, base = w.heap.size + 1 + 1 + 1 := ⟨_, rfl⟩
    have hb9 : base ≤ WA.heap.size := by have := hSz.out; omega
    obtain ⟨L, hL⟩ : ∃ L : List KnE, L = [.v (.slice none 0 0), .v (.pointer (some ⟨w.heap.size, 3, none⟩)), .v (.slice la l.length lc), .row none base 26 6 l.length (cellsOf xs), .v (.pointer (some ⟨w.heap.size + 1, 3, none⟩)), .v (.slice la1 m.length lc1), .row (some 3) base 26 6 (l.length + m.length) (cellsOf xs ++ cellsOf ys), .arr 6 base (l.length + m.length) (cellsOf xs ++ cellsOf ys)] := ⟨_, rfl⟩
    have FARR : ∀ b, ∀ k ∈ L, k.old ≠ some b := by
      intro b k hk
      rw [hL] at hk
      simp only [List.mem_cons, List.not_mem_nil, or_false] at hk
      rcases hk with rfl | rfl | rfl | rfl | rfl | rfl | rfl | rfl
      all_goals (intro e; cases e; done)
    subst hL
    refine planK 10 83 [(0, 52), (1, 53), (2, 54), (3, 55), (4, 56), (5, 57), (6, 58), (7, 59)] [(6, (.slice none 0 0)), (2, (.pointer (some ⟨w.heap.size, 0, none⟩))), (3, (.pointer (some ⟨w.heap.size + 1, 0, none⟩))), (4, (.pointer (some ⟨w.heap.size + 1 + 1, 0, none⟩)))] [.v (.slice none 0 0), .v (.pointer (some ⟨w.heap.size, 3, none⟩)), .v (.slice la l.length lc), .row none base 26 6 l.length (cellsOf xs), .v (.pointer (some ⟨w.heap.size + 1, 3, none⟩)), .v (.slice la1 m.length lc1), .row (some 3) base 26 6 (l.length + m.length) (cellsOf xs ++ cellsOf ys), .arr 6 base (l.length + m.length) (cellsOf xs ++ cellsOf ys)] (by kernel_rfl) (by kernel_rfl) rfl ?_ (by kernel_rfl) (by rfl) (by simp) ?_ (by kernel_rfl) ?_ ?_
    · intro p hp
      simp only [List.mem_cons, List.not_mem_nil, or_false] at hp
      rcases hp with rfl | rfl | rfl | rfl <;> rfl
    · intro k hk b hb
      exact absurd hb (FARR b k hk)
    · intro i o ho hT
      rcases i with _ | _ | _ | _ | _ | _ | _ | _ | i
      · obtain rfl := Option.some.inj ho
        exact kn_move 6 (by rfl) rfl rfl (by simp)
      · obtain rfl := Option.some.inj ho
        exact kn_field0 26 3 2 (by rfl) rfl rfl (by simp) (field3 _)
      · obtain rfl := Option.some.inj ho
        exact kn_load (a := ⟨w.heap.size, 3, none⟩) 23 1 53 (by rfl) rfl rfl (by simp) rfl (by kernel_rfl) BA.out.c3 BA.out.lt (FARR w.heap.size) (load_values _ _ _)
      · obtain rfl := Option.some.inj ho
        exact kn_app0 (inf := i0) (bytes := 104) 23 0 52 (.tmp 54) (by rfl) rfl rfl (by simp) rfl (by kernel_rfl) (src_lies (cs := cellsOf xs) 2 54 (by rfl) (by simp) rfl (by kernel_rfl) LX.out (fun b o' e hne => ⟨Nat.lt_of_lt_of_le (SX.out b o' e hne) HB.out.size, FARR b⟩) (fun w' h => src_all h LENx.out AC.out AN.out)) Tryz.underlying23 I0.out I1.out I2.out I3.out rfl (by omega) ONEx.out (by unfold maxLen; omega) (by omega) (by omega)
      · obtain rfl := Option.some.inj ho
        exact kn_field0 26 3 3 (by rfl) rfl rfl (by simp) (field3 _)
      · obtain rfl := Option.some.inj ho
        exact kn_load (a := ⟨w.heap.size + 1, 3, none⟩) 23 4 56 (by rfl) rfl rfl (by simp) rfl (by kernel_rfl) BC.out.c3 BC.out.lt (FARR (w.heap.size + 1)) (load_values _ _ _)
      · obtain rfl := Option.some.inj ho
        exact kn_app1 (inf := i0) (bytes := 104) 23 3 55 (.tmp 57) rfl rfl (by simp) rfl (by kernel_rfl) (src_lies (cs := cellsOf ys) 5 57 (by rfl) (by simp) rfl (by kernel_rfl) LY.out (fun b o' e hne => ⟨Nat.lt_of_lt_of_le (SY.out b o' e hne) HB.out.size, FARR b⟩) (fun w' h => src_all h LENy.out CC.out CN.out)) Tryz.underlying23 I0.out I1.out I2.out I3.out rfl (by omega) ONEy.out (by unfold maxLen; omega) (by omega) (by omega)
      · obtain rfl := Option.some.inj ho
        exact kn_arr 6 58 _ (enters_of Tryz.func23 (by kernel_rfl) rfl) rfl rfl (by simp) rfl (by kernel_rfl)
      · simp at hT
        omega
    · intro u S' w' hp hR fuel listed hsz hl9 hf
      obtain rfl := listed_eq hsz hl9
      have eA := hR.2 (4, (.pointer (some ⟨w.heap.size + 1 + 1, 0, none⟩))) (by simp); have eV := hR.1 (7, 59) (by simp)
      simp only at eA eV
      obtain ⟨⟨p, q, hu7, hown, hSg⟩, hSb⟩ := hp.val 7 _ _ _ rfl rfl (fun k M φ hk => by
        rcases k with _ | _ | _ | _ | _ | _ | _ | _ | k
        all_goals first | (cases hk; done) | (exact absurd hk (by unfold knE; simp)))
      rw [hu7] at eV
      have hlow : Below WA.heap.size WA w' := hp.low fun j M e φ hj => by
        rcases knE_some hj with ⟨k, hk, hM, _, _⟩ | ⟨_, hM, _, _⟩
        · cases hMk : k.old with
          | none => rw [hM, hMk]
          | some b => exact absurd hMk (FARR b k (List.mem_of_getElem? hk))
        · exact hM
      have hbx := BR.out.below hlow BR.out.lt
      rw [← cellsOf_append] at hown
      have hW : Below w.heap.size w w' := HB.out.trans (hlow.mono HB.out.size)
      have hsame : Same S w w' := fun b hb => hW.block b (HS.out b hb)
      have hend := Lib.hid (row_end (w := w) (w' := w') (S := S) (l := l ++ m) hW (by omega) (by omega) HS.out hbx hown (by simp [HXL.out, HYL.out]) (fun i hi h => by
        rcases Nat.lt_or_ge i l.length with h1 | h1
        · rw [List.getElem_append_left h1, List.getElem_append_left (by rw [HXL.out]; exact h1)]
          exact (HXR.out i h1 _).go hsame (fun _ h => h)
        · rw [List.getElem_append_right h1, List.getElem_append_right (by rw [HXL.out]; exact h1)]
          simp only [HXL.out]
          exact (HYR.out _ (by simp at hi; omega) _).go hsame (fun _ h => h)))
      have hu : 2 ≤ fuel := Nat.le_trans (Nat.le_of_ble_eq_true rfl) hf
      clear hf hl9 hsz hp hSb hSg
      refine wpAny_two 8 9 _ _ rfl rfl (by kernel_rfl) (by kernel_rfl) (by kernel_rfl) rfl rfl (fun K hK => wp_store_row 26 (.tmp 4) (.tmp 59) rfl (w.heap.size + 1 + 1) (VC.arr ⟨5, 0, ByteArray.empty, p, l.length + m.length, q, none, 0, 0, none, 0, 0⟩) eA eV 26 _ hbx (by rw [I0.out]; simp [I2.out]; rfl) rfl (arr_one _) hK) (fun K hK => wp_assign _ (.int .i64 0) rfl rfl hK) ?_ fuel hu
      simp only [frameOf, frameL, List.zipIdx_cons, List.zipIdx_nil, Act.put, List.setIfInBounds_toArray, List.set_cons_zero, List.set_cons_succ, Nat.zero_add, Nat.reduceAdd]
      refine hM _ _ (Met.intro (hJ _ _ ?_))
      repeat apply Exists.intro
      refine ⟨?rel, rfl⟩
      case rel =>
        obtain ⟨x, rfl, h1, h2, h3⟩ := hend.out
        exact ⟨rfl, _, h1, h2, h3⟩
  case rest =>
    obtain ⟨rfl, x, hbx, hlow, hv⟩ := hcut
    rename World => w3
    obtain ⟨k9, h9, s9, la9, ll9, lc9, ka9, kl9, kc9, va9, vl9, vc9⟩ := x
    have r0 := hbx.c0; have r1 := hbx.c1; have r2 := hbx.c2; have r3 := hbx.c3; have r4 := hbx.c4; have r5 := hbx.c5; have rf := hbx.fr; have rlt := hbx.lt
    simp only at r0 r1 r2 r3 r4 r5
    have HV := Lib.hid hv; have HLOW := Lib.hid hlow
    clear hv hlow hbx HB BA BC BR HS HXL HYL HXR HYR LX LY SX SY I0 I1 I2 I3 LENx LENy AC CC AN CN ONEx ONEy hSz hl hm
    go_wp2_with fail
    refine bodyPost_ret (v := .tuple #[.agg #[.int .i64 k9, .int .i64 h9, .string s9, .slice la9 ll9 lc9, .slice ka9 kl9 kc9, .slice va9 vl9 vc9], .int .i64 0]) (by simp [results, Tryz.results82, go_sem, r0, r1, r2, r3, r4, r5]) rfl ?_
    exact ⟨⟨k9, h9, s9, la9, ll9, lc9, ka9, kl9, kc9, va9, vl9, vc9⟩, rfl, (fun j hj => by cases hj; exact HV.out), HLOW.out⟩
end Go.Proofs.YtfgmegfgifeaiaaGreatDoor

namespace Go.Proofs.YtfgmegfgifeaiaaGreatDoor
open Go.RowKit

section
variable {news : List (Nat × Tmp)} {olds : List (Tmp × Value)} {L : List KnE} {w0 : World} {i : Nat} {o : Oper}
/-- The address of an element. -/
theorem kn_index {xb xo n c m : Nat} (j k : Nat) (x y : Tmp) (hm : m < n) (heat : eatB L = true) (hL : L[i]? = some (.v (.pointer (some ⟨xb, xo + m * 6, none⟩)))) (ho : o.op = .indexAddr 23 (.tmp x) (.tmp y)) (hx : (j, x) ∈ news) (hj : L[j]? = some (.v (.slice (some ⟨xb, xo, none⟩) n c))) (hw : waitsB o j = true)
    (hy : (k, y) ∈ news) (hk : L[k]? = some (.v (.int .i64 (m : Int)))) (hwy : waitsB o k = true) : StepOKE Tryz.prog news olds (knE L) w0 i o :=
  step_kn [(j, x, _), (k, y, _)] heat hL (uses2 hx hj hw hy hk hwy) fun b w e _ _ => by
    have e1 := e _ List.mem_cons_self
    have e2 := e _ (List.mem_cons_of_mem _ List.mem_cons_self)
    simp only at e1 e2
    unfold execOp
    simp only [ho, e1, e2]
    go_simp
/-- A Value that lay in a row. -/
theorem kn_loadAt {xb xo : Nat} {c : VC} (j : Nat) (x : Tmp) (heat : eatB L = true) (hL : L[i]? = some (.v (VC.val c))) (ho : o.op = .load 26 (.tmp x)) (hx : (j, x) ∈ news) (hj : L[j]? = some (.v (.pointer (some ⟨xb, xo, none⟩)))) (hw : waitsB o j = true)
    (hc : At6 w0 xb xo c) (hlt : xb < w0.heap.size) (hno : ∀ k ∈ L, k.old ≠ some xb) : StepOKE Tryz.prog news olds (knE L) w0 i o :=
  step_kn [(j, x, _)] heat hL (uses1 hx hj hw) fun b w e _ hk => by
    have e1 := e _ List.mem_cons_self
    simp only at e1
    unfold execOp
    simp only [ho, e1, Sem.run_bind, load_at6 (hc.same (hk xb hlt hno)), Sem.run_pure, Result.andThen_ok]
end

theorem info_value6 : (Tryz.prog.info? 26).map (·.size) = some 6 := by kernel_rfl
/-- The only operation that is ready. -/
theorem wpAny_head {P : Program} {ops : Array Oper} {Q : Exit → Act → World → Prop} {listed : Array Bool} {a : Act} {w : World} (n i : Nat) (oi : Oper) (hi : ops[i]? = some oi) (r1 : Region.ready .any ops listed = [i]) (gi : oi.guard = none)
    (h1 : Oper.wp P oi a w (fun a1 w1 => ∀ fuel, n ≤ fuel → wpAny P .any ops Q fuel (listed.setIfInBounds i true) a1 w1) Q) : ∀ fuel, n + 1 ≤ fuel → wpAny P .any ops Q fuel listed a w := by
  intro fuel hf
  obtain ⟨f, rfl⟩ : ∃ f, fuel = f + 1 := ⟨fuel - 1, by omega⟩
  refine wpAny_all r1 (by simp) fun x hx => ?_
  obtain rfl : x = i := by simpa using hx
  unfold wpOp
  simp only [hi, Region.wanted, gi, if_true]
  refine .inl ?_
  exact Oper.wp_mono (fun a1 w1 h => h f (by omega)) h1

theorem mergeJ_take (l m : List (ByteArray × J)) {i : Nat} (h : i < m.length) : mergeJ l (m.take (i + 1)) = withJ (mergeJ l (m.take i)) m[i].1 m[i].2 := by
  unfold mergeJ
  rw [List.take_add_one, List.getElem?_eq_getElem h, Option.toList_some, List.foldl_append]
  rfl

theorem Lies.at6 {w : World} {a : Option Addr} {xs : List VC} (h : Lies w a (cellsOf xs)) {i : Nat} (hi : i < xs.length) : ∃ b o, a = some ⟨b, o, none⟩ ∧ At6 w b (o + i * 6) xs[i] := by
  have one : ∀ k, k < 6 → ∀ u, xs[i].arr.toList[k]? = some u → ∃ b o, a = some ⟨b, o, none⟩ ∧ w.cell? ⟨b, o + i * 6 + k, none⟩ = some u := fun k hk u hu => by
    obtain ⟨b, o, e, hc⟩ := h (i * 6 + k) u (by rw [cellsOf_get xs hi hk]; exact hu)
    exact ⟨b, o, e, by rw [Nat.add_assoc]; exact hc⟩
  obtain ⟨b, o, rfl, h0⟩ := one 0 (by omega) _ rfl
  have rest : ∀ k, k < 6 → ∀ u, xs[i].arr.toList[k]? = some u → w.cell? ⟨b, o + i * 6 + k, none⟩ = some u := fun k hk u hu => by
    obtain ⟨b', o', e, hc⟩ := one k hk u hu
    cases e
    exact hc
  exact ⟨b, o, rfl, ⟨h0, rest 1 (by omega) _ rfl, rest 2 (by omega) _ rfl, rest 3 (by omega) _ rfl, rest 4 (by omega) _ rfl, rest 5 (by omega) _ rfl⟩⟩

/-- The sum under way: the left object's box holds the sum with the first entries of the right one. -/
structure MergeAt (S : Nat → Prop) (w : World) (c x : VC) (l : List (ByteArray × J)) (wr : World) : Prop where
  low : Below w.heap.size w wr
  ba : Box wr w.heap.size x
  bc : Box wr (w.heap.size + 1) c
  br : Box wr (w.heap.size + 1 + 1) VC.nil
  rd : VR wr (fun b => S b ∨ New (w.heap.size + 1 + 1 + 1) wr b) (.obj l) x
theorem MergeAt.lt {S : Nat → Prop} {w wr : World} {c x : VC} {l : List (ByteArray × J)} (h : MergeAt S w c x l wr) : w.heap.size + 1 + 1 < wr.heap.size := h.br.lt
theorem MergeAt.step {S : Nat → Prop} {w wr w' w2 : World} {c x y : VC} {l l' : List (ByteArray × J)} (h : MergeAt S w c x l wr) (hb : Below wr.heap.size wr w') (hb2 : Below w'.heap.size w' w2) (hS : ∀ b, S b → b < w.heap.size)
    (hy : VR w2 (fun b => (S b ∨ New (w.heap.size + 1 + 1 + 1) wr b) ∨ New w'.heap.size w2 b) (.obj l') y) : MergeAt S w c y l' (w2.setRow w.heap.size y.arr) := by
  have hlt := h.lt
  have h12 : Below wr.heap.size wr w2 := hb.trans (hb2.mono hb.size)
  have e1 := hb.size
  have e2 := h12.size
  refine ⟨setRow_below (h.low.trans (h12.mono h.low.size)) (Nat.le_refl _), ?_, ?_, ?_, ?_⟩
  · exact Box.row (c := x) y (h.ba.below h12 h.ba.lt)
  · exact (setRow_other _ _ _ _ (by omega)).trans (h.bc.below h12 h.bc.lt)
  · exact (setRow_other _ _ _ _ (by omega)).trans (h.br.below h12 h.br.lt)
  · refine hy.go (fun b hb' => setRow_other _ _ _ _ ?_) (fun b hb' => ?_)
    · rcases hb' with (h1 | h1) | h1
      · have := hS b h1; omega
      · have := h1.1; omega
      · have := h1.1; omega
    · rcases hb' with (h1 | h1) | h1
      · exact Or.inl h1
      · exact Or.inr ⟨h1.1, by rw [size_setRow]; exact Nat.lt_of_lt_of_le h1.2 e2⟩
      · exact Or.inr ⟨by have := h1.1; omega, by rw [size_setRow]; exact h1.2⟩

set_option maxRecDepth 100000 in
set_option maxHeartbeats 4000000 in
/-- Two objects. -/
theorem plus_obj {S : Nat → Prop} (l m : List (ByteArray × J)) (a c : VC) {w : World} (hlm : l.length + m.length ≤ 400) (hr : Rises l) (ha : VR w S (.obj l) a) (hc : VR w S (.obj m) c) (hS : ∀ b, S b → b < w.heap.size) : Calls Tryz.prog 82 #[a.val, c.val] w (SpecIn S w (.value (.obj (mergeJ l m)))) := by
  obtain ⟨ys, hyl, hyr, hyk, hyv, hSk, hSv⟩ := vr_obj hc
  obtain ⟨hb0, hba, hbc, hbr⟩ := box_trio w a c
  have hh := ha.head; have hg := hc.head
  have e1 := hh.k; have e2 := hg.k; have e3 := hg.kl; have e4 := hg.vl
  simp only [J.kind, J.ents] at e1 e2 e3 e4
  obtain ⟨WA, hWA⟩ : ∃ WA, WA = (((w.alloc (.cells a.arr 26)).alloc (.cells c.arr 26)).alloc (.cells VC.nil.arr 26)) := ⟨_, rfl⟩
  rw [← hWA] at hb0 hba hbc hbr
  have MA : Hid (MergeAt S w c a l WA) := Lib.hid ⟨hb0, hba, hbc, hbr, ha.go (fun b hb => hb0.block b (hS b hb)) (fun _ h => Or.inl h)⟩
  have HS := Lib.hid hS; have HR := Lib.hid hr; have HYL := Lib.hid hyl; have HYR := Lib.hid hyr; have LK := Lib.hid hyk; have LV := Lib.hid hyv; have SK := Lib.hid hSk; have SV := Lib.hid hSv
  have HLM := Lib.hid hlm
  have c4 := hbc.c4; have c5 := hbc.c5
  have ltA := hbr.lt
  clear hb0 hba hbc hbr ha hc hh hg hS hr hyl hyr hyk hyv hSk hSv hlm
  obtain ⟨k0, h0, s0, la, ll, lc, ka, kl, kc, va, vl, vc⟩ := a
  obtain ⟨k1, h1, s1, la1, ll1, lc1, ka1, kl1, kc1, va1, vl1, vc1⟩ := c
  simp only at e1 e2 e3 e4 LK LV SK SV c4 c5
  subst e1 e2 e3 e4
  unfold VC.val VC.arr VC.nil at *
  have m4 : m.length ≤ 400 := by have := HLM.out; omega
  go_enter Tryz.func82, Tryz.ntmps82
  go_upto_region 15 with fail
  rw [show ByteArray.mk #[] = ByteArray.empty from rfl, ← hWA]
  clear hWA
  go_wp2_with fail
  clear c4 c5
  go_loopw [67] (fun i wr => ∃ (n : Nat) (x : VC), i = .int .i64 n ∧ n ≤ m.length ∧ MergeAt S w ⟨6, h1, s1, la1, ll1, lc1, ka1, m.length, kc1, va1, m.length, vc1⟩ x (mergeJ l (m.take n)) wr) (fun i _ => m.length - (intOf i).toNat)
  case atStart => exact ⟨0, _, rfl, Nat.zero_le _, MA.out⟩
  case round =>
    obtain ⟨n, x, rfl, hn, hM⟩ := hrel
    have MM := Lib.hid hM
    have hws := hM.lt
    clear hM
    by_cases hlt : n < m.length
    · obtain ⟨kb, ko, rfl, hkc⟩ := LK.out n (.string m[n].1) (by simp [hlt])
      have hSk := SK.out kb ko rfl (List.ne_nil_of_length_pos (by omega))
      have hkb := HS.out kb hSk
      have hk1 : wr.cell? ⟨kb, ko + n, none⟩ = some (.string m[n].1) := (World.cell?_of_block (a := ⟨kb, ko + n, none⟩) (MM.out.low.block kb hkb)).trans hkc
      obtain ⟨key, hkey⟩ : ∃ key, key = m[n].1 := ⟨_, rfl⟩
      rw [← hkey] at hk1
      have KE := Lib.hid hkey
      clear hkc hSk hkey
      have hny : n < ys.length := by rw [HYL.out]; exact hlt
      obtain ⟨vb, vo, rfl, h6⟩ := LV.out.at6 hny
      have hvb := HS.out vb (SV.out vb vo rfl (List.ne_nil_of_length_pos (by omega)))
      have H6 := Lib.hid (h6.below MM.out.low hvb)
      have HD := Lib.hid (HYR.out n hlt hny)
      generalize ys[n] = d at H6 HD
      clear h6
      go_upto_region 18 with fail
      obtain ⟨L, hL⟩ : ∃ L : List KnE, L = [.v (VC.val x), .v (.string key), .v (.pointer (some ⟨w.heap.size + 1, 5, none⟩)), .v (.slice (some ⟨vb, vo, none⟩) m.length vc1), .v (.int .i64 (n : Int)), .v (.pointer (some ⟨vb, vo + n * 6, none⟩)), .v (VC.val d)] := ⟨_, rfl⟩
      have FARR : ∀ b, ∀ k ∈ L, k.old ≠ some b := by
        intro b k hk
        rw [hL] at hk
        simp only [List.mem_cons, List.not_mem_nil, or_false] at hk
        rcases hk with rfl | rfl | rfl | rfl | rfl | rfl | rfl
        all_goals (intro e; cases e; done)
      subst hL
      refine planK 9 83 [(0, 72), (1, 73), (2, 74), (3, 75), (4, 76), (5, 77), (6, 78)] [(2, (.pointer (some ⟨w.heap.size, 0, none⟩))), (8, .string key), (3, (.pointer (some ⟨w.heap.size + 1, 0, none⟩))), (7, .int .i64 (n : Int))] [.v (VC.val x), .v (.string key), .v (.pointer (some ⟨w.heap.size + 1, 5, none⟩)), .v (.slice (some ⟨vb, vo, none⟩) m.length vc1), .v (.int .i64 (n : Int)), .v (.pointer (some ⟨vb, vo + n * 6, none⟩)), .v (VC.val d)] (by kernel_rfl) (by kernel_rfl) rfl ?_ (by kernel_rfl) (by rfl) (by simp) ?_ (by kernel_rfl) ?_ ?_
      · intro p hp
        simp only [List.mem_cons, List.not_mem_nil, or_false] at hp
        rcases hp with rfl | rfl | rfl | rfl <;> rfl
      · intro k hk b hb
        exact absurd hb (FARR b k hk)
      · intro i o ho hT
        rcases i with _ | _ | _ | _ | _ | _ | _ | i
        · obtain rfl := Option.some.inj ho
          exact kn_load6 2 (by rfl) rfl rfl (by simp) MM.out.ba (FARR _)
        · obtain rfl := Option.some.inj ho
          exact kn_move 8 (by rfl) rfl rfl (by simp)
        · obtain rfl := Option.some.inj ho
          exact kn_field0 26 5 3 (by rfl) rfl rfl (by simp) (field5 _)
        · obtain rfl := Option.some.inj ho
          exact kn_load (a := ⟨w.heap.size + 1, 5, none⟩) 23 2 74 (by rfl) rfl rfl (by simp) rfl (by kernel_rfl) MM.out.bc.c5 MM.out.bc.lt (FARR _) (load_values _ _ _)
        · obtain rfl := Option.some.inj ho
          exact kn_move 7 (by rfl) rfl rfl (by simp)
        · obtain rfl := Option.some.inj ho
          exact kn_index 3 4 75 76 hlt (by rfl) rfl rfl (by simp) rfl (by kernel_rfl) (by simp) rfl (by kernel_rfl)
        · obtain rfl := Option.some.inj ho
          exact kn_loadAt 5 77 (by rfl) rfl rfl (by simp) rfl (by kernel_rfl) H6.out (by omega) (FARR _)
        · simp at hT
          omega
      · intro u S' w' hp hR fuel listed hsz hl9 hf
        obtain rfl := listed_eq hsz hl9
        have e2 := hR.2 (2, (.pointer (some ⟨w.heap.size, 0, none⟩))) (by simp); have e72 := hR.1 (0, 72) (by simp); have e73 := hR.1 (1, 73) (by simp); have e78 := hR.1 (6, 78) (by simp)
        simp only at e2 e72 e73 e78
        rw [planE_v hp (by rfl) (j := 0) (x := VC.val x) rfl rfl] at e72
        rw [planE_v hp (by rfl) (j := 1) (x := .string key) rfl rfl] at e73
        rw [planE_v hp (by rfl) (j := 6) (x := VC.val d) rfl rfl] at e78
        have hlow : Below wr.heap.size wr w' := hp.low fun j M e φ hj => by
          rcases knE_some hj with ⟨k, hk, hM, _, _⟩ | ⟨_, hM, _, _⟩
          · cases hMk : k.old with
            | none => rw [hM, hMk]
            | some b => exact absurd hMk (FARR b k (List.mem_of_getElem? hk))
          · exact hM
        have hlen := mergeJ_len (m.take n) l
        have hfit := HLM.out
        have WITH := Lib.hid (With_any (S := fun b => S b ∨ New (w.heap.size + 1 + 1 + 1) wr b) (mergeJ l (m.take n)) x d key m[n].2 (w := w') (by simp at hlen; omega) (mergeJ_rises _ HR.out)
          (MM.out.rd.go (fun b hb => hlow.block b (by rcases hb with h | h; have := HS.out b h; omega; exact h.2)) (fun _ h => h))
          (HD.out.go (fun b hb => (MM.out.low.trans (hlow.mono MM.out.low.size)).block b (HS.out b hb)) (fun b h => Or.inl h))
          (fun b hb => by have := hlow.size; rcases hb with h | h; have := HS.out b h; omega; have := h.2; omega))
        rw [KE.out] at WITH
        rw [← mergeJ_take l m hlt] at WITH
        rw [← KE.out] at WITH
        have HLOW := Lib.hid hlow
        have hu : 2 ≤ fuel := Nat.le_trans (Nat.le_of_ble_eq_true rfl) hf
        clear hf hl9 hsz hp hlen hlow
        refine wpAny_head 1 7 _ rfl (by kernel_rfl) rfl (wp_call_fn 78 _ _ #[x.val, .string key, d.val] (enters_of Tryz.func78 (by kernel_rfl) rfl) rfl (by simp only [List.map_toArray, List.map_cons, List.map_nil, e72, e73, e78]) (WITH.out.mono ?_)) fuel hu
        rintro e w2 ⟨y, rfl, hy, hb2⟩
        refine ⟨_, rfl, ?_⟩
        intro f2 hf2
        have hbx := (MM.out.ba.below HLOW.out MM.out.ba.lt).below hb2 (Nat.lt_of_lt_of_le MM.out.ba.lt HLOW.out.size)
        have hnew := Lib.hid (MM.out.step HLOW.out hb2 HS.out hy)
        refine wpAny_last 8 _ rfl (by kernel_rfl) (by kernel_rfl) rfl (fun K hK => wp_store_row 26 (.tmp 2) (.tmp 79) rfl w.heap.size (VC.arr y) ((Act.eval_put (fun d hd e => by cases hd; cases e)).trans e2) (eval_put_self (by rw [frameOf_size]; exact (by decide : 79 < 83))) 26 _ hbx info_value6 rfl (arr_one _) hK) ?_ f2 hf2
        clear hR e2 e72 e73 e78 hbx hy hb2 WITH HLOW
        simp only [frameOf, frameL, List.zipIdx_cons, List.zipIdx_nil, Act.put, List.setIfInBounds_toArray, List.set_cons_zero, List.set_cons_succ, Nat.zero_add, Nat.reduceAdd]
        go_wp2_with fail
        go_roundw
        case rel => exact ⟨n + 1, y, by simp, by omega, hnew.out⟩
        case measure => simp [intOf]; omega
    · obtain ⟨hx⟩ : Nonempty (n = m.length) := ⟨by omega⟩
      rw [hx, List.take_length] at MM
      clear hx
      have hba := MM.out.ba; have hbr := MM.out.br
      obtain ⟨k9, h9, s9, la9, ll9, lc9, ka9, kl9, kc9, va9, vl9, vc9⟩ := x
      have g0 := hba.c0; have g1 := hba.c1; have g2 := hba.c2; have g3 := hba.c3; have g4 := hba.c4; have g5 := hba.c5
      have r0 := hbr.c0; have r1 := hbr.c1; have r2 := hbr.c2; have r3 := hbr.c3; have r4 := hbr.c4; have r5 := hbr.c5; have rf := hbr.fr; have rlt := hbr.lt
      unfold VC.nil at r0 r1 r2 r3 r4 r5
      simp only at r0 r1 r2 r3 r4 r5 g0 g1 g2 g3 g4 g5
      clear hba hbr MA
      go_wp2_with fail
      refine bodyPost_ret (v := .tuple #[.agg #[.int .i64 k9, .int .i64 h9, .string s9, .slice la9 ll9 lc9, .slice ka9 kl9 kc9, .slice va9 vl9 vc9], .int .i64 0]) (by simp [results, Tryz.results82, go_sem, r0, r1, r2, r3, r4, r5]) rfl ?_
      exact spec_in (w := w) (w1 := wr) (N := w.heap.size + 1 + 1) (lo := w.heap.size + 1 + 1 + 1) ⟨k9, h9, s9, la9, ll9, lc9, ka9, kl9, kc9, va9, vl9, vc9⟩ (.value (.obj (mergeJ l m))) MM.out.low (by omega) (by omega) HS.out (fun j hj => by cases hj; exact MM.out.rd)
end Go.Proofs.YtfgmegfgifeaiaaGreatDoor

namespace Go.Proofs.YtfgmegfgifeaiaaGreatDoor
open Go.RowKit

theorem JOK.list_le {l : List J} (h : JOK (.arr l)) : l.length ≤ 400 := by rw [JOK] at h; exact h.2.2.1
/-- spec.plus. -/
theorem plus_any {S : Nat → Prop} (x y : J) (a c : VC) {w : World} (hx : JOK x) (hy : JOK y) (he : x.ents.length + y.ents.length ≤ 400) (ha : VR w S x a) (hc : VR w S y c) (hS : ∀ b, S b → b < w.heap.size) : Calls Tryz.prog 82 #[a.val, c.val] w (SpecIn S w (plusJ x y)) := by
  have e1 := ha.head.k
  have e2 := hc.head.k
  have err : x.kind ≠ 0 → y.kind ≠ 0 → (x.kind ≠ y.kind ∨ (x.kind = y.kind ∧ (x.kind = 1 ∨ x.kind = 2))) → Calls Tryz.prog 82 #[a.val, c.val] w (SpecIn S w .raises) := fun h1 h2 h3 => plus_raises a c (by rw [e1]; exact h1) (by rw [e2]; exact h2) (by rw [e1, e2]; exact h3)
  cases x with
  | null => exact plus_null y a c (by rw [e1]; rfl) hc hS
  | bool b =>
    have k1 : (J.bool b).kind = 1 ∨ (J.bool b).kind = 2 := by cases b <;> simp [J.kind]
    cases y with
    | null => exact plus_null2 _ a c (by rw [e1]; rcases k1 with h | h <;> rw [h] <;> decide) (by rw [e2]; rfl) ha hS
    | bool d => exact err (by rcases k1 with h | h <;> rw [h] <;> decide) (by cases d <;> simp [J.kind]) (by cases b <;> cases d <;> simp [J.kind])
    | num d => exact err (by rcases k1 with h | h <;> rw [h] <;> decide) (by simp [J.kind]) (by cases b <;> simp [J.kind])
    | str d => exact err (by rcases k1 with h | h <;> rw [h] <;> decide) (by simp [J.kind]) (by cases b <;> simp [J.kind])
    | arr d => exact err (by rcases k1 with h | h <;> rw [h] <;> decide) (by simp [J.kind]) (by cases b <;> simp [J.kind])
    | obj d => exact err (by rcases k1 with h | h <;> rw [h] <;> decide) (by simp [J.kind]) (by cases b <;> simp [J.kind])
  | num b =>
    cases y with
    | null => exact plus_null2 _ a c (by rw [e1]; simp [J.kind]) (by rw [e2]; rfl) ha hS
    | num d => exact plus_num b d a c hx.half_ok hy.half_ok ha hc hS
    | bool d => exact err (by simp [J.kind]) (by cases d <;> simp [J.kind]) (by cases d <;> simp [J.kind])
    | str d => exact err (by simp [J.kind]) (by simp [J.kind]) (by simp [J.kind])
    | arr d => exact err (by simp [J.kind]) (by simp [J.kind]) (by simp [J.kind])
    | obj d => exact err (by simp [J.kind]) (by simp [J.kind]) (by simp [J.kind])
  | str b =>
    cases y with
    | null => exact plus_null2 _ a c (by rw [e1]; simp [J.kind]) (by rw [e2]; rfl) ha hS
    | str d => exact plus_str b d a c (by have := hx.text_le; have := hy.text_le; simp only [J.text] at *; omega) ha hc hS
    | bool d => exact err (by simp [J.kind]) (by cases d <;> simp [J.kind]) (by cases d <;> simp [J.kind])
    | num d => exact err (by simp [J.kind]) (by simp [J.kind]) (by simp [J.kind])
    | arr d => exact err (by simp [J.kind]) (by simp [J.kind]) (by simp [J.kind])
    | obj d => exact err (by simp [J.kind]) (by simp [J.kind]) (by simp [J.kind])
  | arr b =>
    cases y with
    | null => exact plus_null2 _ a c (by rw [e1]; simp [J.kind]) (by rw [e2]; rfl) ha hS
    | arr d => exact plus_arr b d a c hx.list_le hy.list_le ha hc hS
    | bool d => exact err (by simp [J.kind]) (by cases d <;> simp [J.kind]) (by cases d <;> simp [J.kind])
    | num d => exact err (by simp [J.kind]) (by simp [J.kind]) (by simp [J.kind])
    | str d => exact err (by simp [J.kind]) (by simp [J.kind]) (by simp [J.kind])
    | obj d => exact err (by simp [J.kind]) (by simp [J.kind]) (by simp [J.kind])
  | obj b =>
    cases y with
    | null => exact plus_null2 _ a c (by rw [e1]; simp [J.kind]) (by rw [e2]; rfl) ha hS
    | obj d => exact plus_obj b d a c he hx.obj_mem.1 ha hc hS
    | bool d => exact err (by simp [J.kind]) (by cases d <;> simp [J.kind]) (by cases d <;> simp [J.kind])
    | num d => exact err (by simp [J.kind]) (by simp [J.kind]) (by simp [J.kind])
    | str d => exact err (by simp [J.kind]) (by simp [J.kind]) (by simp [J.kind])
    | arr d => exact err (by simp [J.kind]) (by simp [J.kind]) (by simp [J.kind])
end Go.Proofs.YtfgmegfgifeaiaaGreatDoor

namespace Go.Proofs.YtfgmegfgifeaiaaGreatDoor
open Go.RowKit

theorem Box.valStored {w : World} {N : Nat} {c : VC} (h : Box w N c) (y : VC) : Box (valStored w N y) N y := by
  have h0 : Box (w.setCell ⟨N, 0, none⟩ (.int .i64 y.k)) N {c with k := y.k} := heap_setCell_same w ⟨N, 0, none⟩ _ h rfl
  have h1 : Box ((w.setCell ⟨N, 0, none⟩ (.int .i64 y.k)).setCell ⟨N, 1, none⟩ (.int .i64 y.h)) N {c with k := y.k, h := y.h} := heap_setCell_same _ ⟨N, 1, none⟩ _ h0 rfl
  have h2 : Box (((w.setCell ⟨N, 0, none⟩ (.int .i64 y.k)).setCell ⟨N, 1, none⟩ (.int .i64 y.h)).setCell ⟨N, 2, none⟩ (.string y.s)) N {c with k := y.k, h := y.h, s := y.s} := heap_setCell_same _ ⟨N, 2, none⟩ _ h1 rfl
  exact ((h2.set3 y.la y.ll y.lc).set4 y.ka y.kl y.kc).set5 y.va y.vl y.vc

/-- What a specification's sum has so far. -/
structure AddAt (S : Nat → Prop) (w : World) (a x : VC) (j : J) (wr : World) : Prop where
  low : Below w.heap.size w wr
  ba : Box wr w.heap.size a
  br : Box wr (w.heap.size + 1) VC.nil
  bx : Box wr (w.heap.size + 1 + 1) x
  rd : VR wr (fun b => S b ∨ New (w.heap.size + 1 + 1 + 1) wr b) j x
theorem AddAt.lt {S : Nat → Prop} {w wr : World} {a x : VC} {j : J} (h : AddAt S w a x j wr) : w.heap.size + 1 + 1 < wr.heap.size := h.bx.lt

def parts (l : List J) : Nat := (l.map fun x => x.list.length + x.ents.length).sum
theorem parts_take (l : List J) {n : Nat} (h : n < l.length) : parts (l.take (n + 1)) = parts (l.take n) + l[n].list.length + l[n].ents.length := by
  unfold parts
  rw [List.take_add_one, List.getElem?_eq_getElem h, Option.toList_some, List.map_append, List.sum_append]
  simp
  omega
theorem parts_le (l : List J) (n : Nat) : parts (l.take n) ≤ parts l := by
  conv => rhs; rw [← List.take_append_drop n l]
  unfold parts
  rw [List.map_append, List.sum_append]
  omega
theorem addJ_drop {acc : J} (l : List J) {n : Nat} (h : n < l.length) : addJ acc (l.drop n) = match plusJ acc l[n] with | .value b => addJ b (l.drop (n + 1)) | o => o := by
  rw [List.drop_eq_getElem_cons h, addJ]
  cases plusJ acc l[n] <;> rfl

/-- A value that a round has given lies in the sum's box. -/
theorem AddAt.next {S : Nat → Prop} {w wr w1 w2 : World} {a x y : VC} {j j' : J} (ob : Obj) (h : AddAt S w a x j wr) (hb1 : Below wr.heap.size wr w1) (hb2 : Below w1.heap.size w1 w2) (hS : ∀ b, S b → b < w.heap.size)
    (hy : VR w2 (fun b => (S b ∨ New (w.heap.size + 1 + 1 + 1) wr b) ∨ New w1.heap.size w2 b) j' y) : AddAt S w a y j' ((valStored w2 (w.heap.size + 1 + 1) y).alloc ob) := by
  have hlt := h.lt
  have e1 := hb1.size; have e2 := hb2.size
  have h12 : Below wr.heap.size wr w2 := hb1.trans (hb2.mono e1)
  have hal : Below (w.heap.size + 1 + 1 + 1) (valStored w2 (w.heap.size + 1 + 1) y) ((valStored w2 (w.heap.size + 1 + 1) y).alloc ob) := (Below.refl _ _).alloc (by rw [valStored_size]; omega) _
  have heap : ∀ b, b < w2.heap.size → b ≠ w.heap.size + 1 + 1 → ((valStored w2 (w.heap.size + 1 + 1) y).alloc ob).heap[b]? = w2.heap[b]? := fun b hb hne => by
    rw [← valStored_block hne (w := w2) (c := y)]
    exact ((Below.refl w2.heap.size (valStored w2 (w.heap.size + 1 + 1) y)).alloc (by rw [valStored_size]; omega) ob).block b hb
  refine ⟨(valStored_below (h.low.trans (h12.mono h.low.size)) (by omega)).trans (hal.mono (by omega)), ?_, ?_, ?_, ?_⟩
  · exact (heap _ (by omega) (by omega)).trans (h.ba.below h12 h.ba.lt)
  · exact (heap _ (by omega) (by omega)).trans (h.br.below h12 h.br.lt)
  · exact (Box.valStored (h.bx.below h12 h.bx.lt) y).below hal (by omega)
  · refine hy.go (fun b hb' => heap b ?_ ?_) (fun b hb' => ?_)
    · rcases hb' with (h1 | h1) | h1
      · have := hS b h1; omega
      · have := h1.2; omega
      · exact h1.2
    · rcases hb' with (h1 | h1) | h1
      · have := hS b h1; omega
      · have := h1.1; omega
      · have := h1.1; omega
    · rcases hb' with (h1 | h1) | h1
      · exact Or.inl h1
      · exact Or.inr ⟨h1.1, by rw [World.size_alloc, valStored_size]; have := h1.2; omega⟩
      · exact Or.inr ⟨by have := h1.1; omega, by rw [World.size_alloc, valStored_size]; have := h1.2; omega⟩

set_option maxRecDepth 100000 in
set_option maxHeartbeats 4000000 in
/-- spec.array("add") of a list. -/
theorem sarray_add {S : Nat → Prop} (l : List J) (a : VC) {w : World} (hl : l.length ≤ 400) (hj : ∀ x ∈ l, JOK x ∧ x.text.size ≤ 2000) (hp : parts l ≤ 400) (ha : VR w S (.arr l) a) (hS : ∀ b, S b → b < w.heap.size) :
    Calls Tryz.prog 44 #[.string ⟨#[97, 100, 100]⟩, a.val] w (SpecIn S w (addJ .null l)) := by
  obtain ⟨hb0, bx0, bx1⟩ := box_pair w a
  obtain ⟨WA, hWA⟩ : ∃ WA, WA = ((w.alloc (.cells a.arr 26)).alloc (.cells VC.nil.arr 26)) := ⟨_, rfl⟩
  rw [← hWA] at hb0 bx0 bx1
  have hsA : WA.heap.size = w.heap.size + 1 + 1 := by rw [hWA]; simp
  have hbN : Below (w.heap.size + 1 + 1) WA (WA.alloc (.cells VC.nil.arr 26)) := by rw [← hsA]; exact (Below.refl _ _).alloc (Nat.le_refl _) _
  have bx2 := box_alloc WA VC.nil
  rw [hsA] at bx2
  have A0 : Hid (AddAt S w a VC.nil .null (WA.alloc (.cells VC.nil.arr 26))) := Lib.hid ⟨hb0.trans (hbN.mono (by omega)), bx0.below hbN (by omega), bx1.below hbN (by omega), bx2, VR.null _ _⟩
  have c3 := bx0.c3
  have hh := ha.head
  have e1 := hh.k; have e3 := hh.ll
  simp only [J.kind, J.list] at e1 e3
  have HV := ha
  rw [VR] at HV
  have LI := Lib.hid HV.2.1
  have HS := Lib.hid hS; have HJ := Lib.hid hj; have HP := Lib.hid hp; have HSA := Lib.hid hsA
  clear hb0 bx0 bx1 bx2 hbN hh HV ha hS hj hp hsA
  obtain ⟨k0, h0, s0, la, ll, lc, ka, kl, kc, va, vl, vc⟩ := a
  simp only at e1 e3 LI c3
  subst e1 e3
  unfold VC.val VC.arr VC.nil at *
  go_enter Tryz.func44, Tryz.ntmps44
  go_upto_region 8 with fail
  rw [show ByteArray.mk #[] = ByteArray.empty from rfl, ← hWA]
  obtain ⟨W0, hW0⟩ : ∃ W0, W0 = WA.alloc (.cells #[.int .i64 0, .int .i64 0, .string ByteArray.empty, .slice none 0 0, .slice none 0 0, .slice none 0 0] 26) := ⟨_, rfl⟩
  rw [← hW0] at A0 ⊢
  have d3 := A0.out.ba.c3
  simp only at d3
  clear hWA hW0 c3
  go_wp2_with fail
  clear d3
  go_loopw [66] (fun i wr => ∃ (n : Nat) (x : VC) (acc : J), i = .int .i64 n ∧ n ≤ l.length ∧ AddAt S w ⟨5, h0, s0, la, l.length, lc, ka, kl, kc, va, vl, vc⟩ x acc wr ∧ SumOk n (parts (l.take n)) acc ∧ addJ acc (l.drop n) = addJ .null l) (fun i _ => l.length - (intOf i).toNat)
  case atStart => exact ⟨0, _, .null, rfl, Nat.zero_le _, A0.out, ⟨.leafs (by simp [J.half]) (by simp [J.text, ByteArray.size]) rfl rfl, by simp [J.text, ByteArray.size], by simp [J.list], by simp [J.ents]⟩, rfl⟩
  case round =>
    obtain ⟨n, x, acc, rfl, hn, hA, hok, hsum⟩ := hrel
    have AA1 := Lib.hid hA; have OK := Lib.hid hok; have SUM := Lib.hid hsum
    have hws := hA.lt
    clear hA hok hsum
    by_cases hlt : n < l.length
    · obtain ⟨b1, o1, d, rfl, hb1, h6, hV⟩ := LI.out n hlt
      have hb1w := HS.out b1 hb1
      have h6' := h6.below AA1.out.low hb1w
      have g0 := h6'.c0; have g1 := h6'.c1; have g2 := h6'.c2; have g3 := h6'.c3; have g4 := h6'.c4; have g5 := h6'.c5
      have HV := Lib.hid hV
      have hbx := AA1.out.bx
      have q0 := hbx.c0; have q1 := hbx.c1; have q2 := hbx.c2; have q3 := hbx.c3; have q4 := hbx.c4; have q5 := hbx.c5; have qf := hbx.fr; have qlt := hbx.lt
      clear h6 h6' hV hbx hb1
      have BN := Lib.hid ((Below.refl wr.heap.size wr).alloc (Nat.le_refl _) (.cells d.arr 26))
      have mem : l[n] ∈ l := List.getElem_mem hlt
      have hJn := HJ.out _ mem
      have PL := Lib.hid (plus_any (S := fun b => S b ∨ New (w.heap.size + 1 + 1 + 1) wr b) acc l[n] x d (w := wr.alloc (.cells d.arr 26)) OK.out.ok hJn.1
        (by have := OK.out.ents; have h1 := parts_take l hlt; have h2 := parts_le l (n + 1); have := HP.out; omega)
        (AA1.out.rd.go (fun b hb => BN.out.block b (by rcases hb with h | h; have := HS.out b h; omega; exact h.2)) (fun _ h => h))
        (HV.out.go (fun b hb => (AA1.out.low.trans (BN.out.mono AA1.out.low.size)).block b (HS.out b hb)) (fun b h => Or.inl h))
        (fun b hb => by simp; rcases hb with h | h; have := HS.out b h; omega; have := h.2; omega))
      have hdrop := addJ_drop (acc := acc) l hlt
      rw [SUM.out] at hdrop
      have DROP := Lib.hid hdrop
      have NEXT := Lib.hid (fun b (h : plusJ acc l[n] = .value b) => plus_ok OK.out hJn.1 hJn.2 (by omega) (by have h1 := parts_take l hlt; have h2 := parts_le l (n + 1); have := HP.out; omega) h)
      clear hdrop mem hJn
      generalize plusJ acc l[n] = o at PL DROP NEXT
      obtain ⟨k1, h1, s1, la1, ll1, lc1, ka1, kl1, kc1, va1, vl1, vc1⟩ := x
      obtain ⟨k2, h2, s2, la2, ll2, lc2, ka2, kl2, kc2, va2, vl2, vc2⟩ := d
      unfold VC.val at *
      unfold VC.arr at PL BN
      simp only at q0 q1 q2 q3 q4 q5 g0 g1 g2 g3 g4 g5
      go_upto_region 11 with fail
      have r0 := AA1.out.br.c0; have r1 := AA1.out.br.c1; have r2 := AA1.out.br.c2; have r3 := AA1.out.br.c3; have r4 := AA1.out.br.c4; have r5 := AA1.out.br.c5
      unfold VC.nil at r0 r1 r2 r3 r4 r5
      simp only at r0 r1 r2 r3 r4 r5
      go_upto_region 11 with fail
      cases o with
      | value b =>
        have OK2 := Lib.hid (NEXT.out b rfl)
        have D2 := Lib.hid (DROP.out.symm)
        clear NEXT DROP r0 r1 r2 r3 r4 r5 g0 g1 g2 g3 g4 g5
        go_wp2_with fail
        refine PL.out.mono ?_
        rintro e w2 ⟨y, rfl, hy, hb2⟩
        have hy2 := hy b rfl
        have HY := Lib.hid hy2; have HB2 := Lib.hid hb2
        have hbx := (AA1.out.bx.below BN.out AA1.out.bx.lt).below hb2 (by simp; omega)
        clear q0 q1 q2 q3 q4 q5 qf
        have q0 := hbx.c0; have q1 := hbx.c1; have q2 := hbx.c2; have q3 := hbx.c3; have q4 := hbx.c4; have q5 := hbx.c5; have qf := hbx.fr; have flt := hbx.lt
        simp only at q0 q1 q2 q3 q4 q5
        clear hy hy2 hb2 hbx
        obtain ⟨k3, h3, s3, la3, ll3, lc3, ka3, kl3, kc3, va3, vl3, vc3⟩ := y
        unfold VC.val VC.arr Out.how
        go_wp2_with fail
        go_roundw
        case rel =>
          refine ⟨n + 1, ⟨k3, h3, s3, la3, ll3, lc3, ka3, kl3, kc3, va3, vl3, vc3⟩, b, by simp, by omega, ?_, ?_, ?_⟩
          · exact AA1.out.next _ BN.out HB2.out HS.out HY.out
          · rw [parts_take l hlt]; exact OK2.out
          · exact D2.out
        case measure => simp [intOf]; omega
      | raises =>
        have D2 := Lib.hid (DROP.out.symm)
        clear NEXT DROP g0 g1 g2 g3 g4 g5
        go_wp2_with fail
        refine PL.out.mono ?_
        rintro e w2 ⟨y, rfl, _, hb2⟩
        have HB2 := Lib.hid hb2
        have hbx := (AA1.out.br.below BN.out AA1.out.br.lt).below hb2 (by simp; omega)
        clear q0 q1 q2 q3 q4 q5 qf r0 r1 r2 r3 r4 r5
        have q0 := hbx.c0; have q1 := hbx.c1; have q2 := hbx.c2; have q3 := hbx.c3; have q4 := hbx.c4; have q5 := hbx.c5; have qf := hbx.fr; have flt := hbx.lt
        unfold VC.nil at q0 q1 q2 q3 q4 q5
        simp only at q0 q1 q2 q3 q4 q5
        have hbx0 := Lib.hid hbx
        clear hb2 hbx
        obtain ⟨k3, h3, s3, la3, ll3, lc3, ka3, kl3, kc3, va3, vl3, vc3⟩ := y
        have hlow := ((AA1.out.low.trans (BN.out.mono AA1.out.low.size)).trans (HB2.out.mono (Nat.le_trans AA1.out.low.size BN.out.size)))
        obtain ⟨W9, hW9⟩ : ∃ W9, W9 = (valStored w2 (w.heap.size + 1) VC.nil).alloc (.cells (VC.arr ⟨k3, h3, s3, la3, ll3, lc3, ka3, kl3, kc3, va3, vl3, vc3⟩) 26) := ⟨_, rfl⟩
        have hlow9 : Below w.heap.size w W9 := by rw [hW9]; exact (valStored_below hlow (by omega)).alloc (by rw [valStored_size]; have := hlow.size; omega) _
        have hbx9 : Box W9 (w.heap.size + 1) VC.nil := by rw [hW9]; exact (Box.valStored hbx0.out VC.nil).below ((Below.refl (w.heap.size + 2) _).alloc (by rw [valStored_size]; omega) _) (by omega)
        have HW9 := Lib.hid hW9; have LOW9 := Lib.hid hlow9; have BX9 := Lib.hid hbx9
        clear hW9 hlow hlow9 hbx9
        unfold VC.val VC.arr Out.how
        go_wp2_with fail
        change bodyPost _ _ _ _ _ ((valStored w2 (w.heap.size + 1) VC.nil).alloc (.cells (VC.arr ⟨k3, h3, s3, la3, ll3, lc3, ka3, kl3, kc3, va3, vl3, vc3⟩) 26))
        rw [← HW9.out]
        clear q0 q1 q2 q3 q4 q5
        have q0 := BX9.out.c0; have q1 := BX9.out.c1; have q2 := BX9.out.c2; have q3 := BX9.out.c3; have q4 := BX9.out.c4; have q5 := BX9.out.c5
        unfold VC.nil at q0 q1 q2 q3 q4 q5
        simp only at q0 q1 q2 q3 q4 q5
        refine bodyPost_ret (v := .tuple #[.agg #[.int .i64 0, .int .i64 0, .string ByteArray.empty, .slice none 0 0, .slice none 0 0, .slice none 0 0], .int .i64 1]) (by simp [results, Tryz.results44, go_sem, q0, q1, q2, q3, q4, q5]) rfl ?_
        rw [← D2.out]
        exact silent_in LOW9.out (fun j h => by cases h) rfl
      | silent =>
        have D2 := Lib.hid (DROP.out.symm)
        clear NEXT DROP g0 g1 g2 g3 g4 g5
        go_wp2_with fail
        refine PL.out.mono ?_
        rintro e w2 ⟨y, rfl, _, hb2⟩
        have HB2 := Lib.hid hb2
        have hbx := (AA1.out.br.below BN.out AA1.out.br.lt).below hb2 (by simp; omega)
        clear q0 q1 q2 q3 q4 q5 qf r0 r1 r2 r3 r4 r5
        have q0 := hbx.c0; have q1 := hbx.c1; have q2 := hbx.c2; have q3 := hbx.c3; have q4 := hbx.c4; have q5 := hbx.c5; have qf := hbx.fr; have flt := hbx.lt
        unfold VC.nil at q0 q1 q2 q3 q4 q5
        simp only at q0 q1 q2 q3 q4 q5
        have hbx0 := Lib.hid hbx
        clear hb2 hbx
        obtain ⟨k3, h3, s3, la3, ll3, lc3, ka3, kl3, kc3, va3, vl3, vc3⟩ := y
        have hlow := ((AA1.out.low.trans (BN.out.mono AA1.out.low.size)).trans (HB2.out.mono (Nat.le_trans AA1.out.low.size BN.out.size)))
        obtain ⟨W9, hW9⟩ : ∃ W9, W9 = (valStored w2 (w.heap.size + 1) VC.nil).alloc (.cells (VC.arr ⟨k3, h3, s3, la3, ll3, lc3, ka3, kl3, kc3, va3, vl3, vc3⟩) 26) := ⟨_, rfl⟩
        have hlow9 : Below w.heap.size w W9 := by rw [hW9]; exact (valStored_below hlow (by omega)).alloc (by rw [valStored_size]; have := hlow.size; omega) _
        have hbx9 : Box W9 (w.heap.size + 1) VC.nil := by rw [hW9]; exact (Box.valStored hbx0.out VC.nil).below ((Below.refl (w.heap.size + 2) _).alloc (by rw [valStored_size]; omega) _) (by omega)
        have HW9 := Lib.hid hW9; have LOW9 := Lib.hid hlow9; have BX9 := Lib.hid hbx9
        clear hW9 hlow hlow9 hbx9
        unfold VC.val VC.arr Out.how
        go_wp2_with fail
        change bodyPost _ _ _ _ _ ((valStored w2 (w.heap.size + 1) VC.nil).alloc (.cells (VC.arr ⟨k3, h3, s3, la3, ll3, lc3, ka3, kl3, kc3, va3, vl3, vc3⟩) 26))
        rw [← HW9.out]
        clear q0 q1 q2 q3 q4 q5
        have q0 := BX9.out.c0; have q1 := BX9.out.c1; have q2 := BX9.out.c2; have q3 := BX9.out.c3; have q4 := BX9.out.c4; have q5 := BX9.out.c5
        unfold VC.nil at q0 q1 q2 q3 q4 q5
        simp only at q0 q1 q2 q3 q4 q5
        refine bodyPost_ret (v := .tuple #[.agg #[.int .i64 0, .int .i64 0, .string ByteArray.empty, .slice none 0 0, .slice none 0 0, .slice none 0 0], .int .i64 2]) (by simp [results, Tryz.results44, go_sem, q0, q1, q2, q3, q4, q5]) rfl ?_
        rw [← D2.out]
        exact silent_in LOW9.out (fun j h => by cases h) rfl
    · obtain ⟨hx⟩ : Nonempty (n = l.length) := ⟨by omega⟩
      have hs := SUM.out
      rw [hx, List.drop_length] at hs
      have HSUM := Lib.hid hs.symm
      clear hx hs
      have hba := AA1.out.bx; have hbr := AA1.out.br
      obtain ⟨k9, h9, s9, la9, ll9, lc9, ka9, kl9, kc9, va9, vl9, vc9⟩ := x
      have g0 := hba.c0; have g1 := hba.c1; have g2 := hba.c2; have g3 := hba.c3; have g4 := hba.c4; have g5 := hba.c5
      have r0 := hbr.c0; have r1 := hbr.c1; have r2 := hbr.c2; have r3 := hbr.c3; have r4 := hbr.c4; have r5 := hbr.c5; have rf := hbr.fr; have rlt := hbr.lt
      unfold VC.nil at r0 r1 r2 r3 r4 r5
      simp only at r0 r1 r2 r3 r4 r5 g0 g1 g2 g3 g4 g5
      clear hba hbr A0
      go_wp2_with fail
      refine bodyPost_ret (v := .tuple #[.agg #[.int .i64 k9, .int .i64 h9, .string s9, .slice la9 ll9 lc9, .slice ka9 kl9 kc9, .slice va9 vl9 vc9], .int .i64 0]) (by simp [results, Tryz.results44, go_sem, r0, r1, r2, r3, r4, r5]) rfl ?_
      rw [HSUM.out]
      exact spec_in (w := w) (w1 := wr) (N := w.heap.size + 1) (lo := w.heap.size + 1 + 1 + 1) ⟨k9, h9, s9, la9, ll9, lc9, ka9, kl9, kc9, va9, vl9, vc9⟩ (.value acc) AA1.out.low (by omega) (by omega) HS.out (fun j hj => by cases hj; exact AA1.out.rd)
end Go.Proofs.YtfgmegfgifeaiaaGreatDoor

namespace Go.Proofs.YtfgmegfgifeaiaaGreatDoor
open Go.RowKit

set_option maxRecDepth 100000 in
/-- spec.Call without arguments answers as alone does. -/
theorem Call_alone_add {S : Nat → Prop} (j : J) (o : Out) (a : VC) {w : World} (hj : JOK j) (ha : VR w S j a) (hS : ∀ b, S b → b < w.heap.size)
    (hal : ∀ w', VR w' S j a → w.heap.size ≤ w'.heap.size → Calls Tryz.prog 24 #[.string ⟨#[97, 100, 100]⟩, a.val] w' (SpecIn S w' o)) :
    Calls Tryz.prog 10 #[.string ⟨#[97, 100, 100]⟩, a.val, .slice none 0 0] w (SpecIn S w o) := by
  have B0 := box_alloc w a
  have b1 : Below w.heap.size w ((w.alloc (.cells a.arr 26)).alloc (.cells VC.nil.arr 26)) := ((Below.refl _ _).alloc (Nat.le_refl _) _).alloc (by simp) _
  have bx0 : Box ((w.alloc (.cells a.arr 26)).alloc (.cells VC.nil.arr 26)) w.heap.size a := B0.below ((Below.refl (w.heap.size + 1) _).alloc (by simp) _) (by omega)
  have bx1 : Box ((w.alloc (.cells a.arr 26)).alloc (.cells VC.nil.arr 26)) (w.heap.size + 1) VC.nil := by
    have := box_alloc (w.alloc (.cells a.arr 26)) VC.nil
    simp only [World.size_alloc] at this
    exact this
  have ha2 := ha.go (fun b h => b1.block b (hS b h)) (fun _ h => h) (w' := (w.alloc (.cells a.arr 26)).alloc (.cells VC.nil.arr 26)) (S' := S)
  have V1 := Lib.hid (Vague_any (SizeOf.sizeOf j) j a _ S (Nat.le_refl _) hj ha2 (fun b h => Nat.lt_of_lt_of_le (hS b h) b1.size))
  have HB1 := Lib.hid b1; have BX0 := Lib.hid bx0; have BX1 := Lib.hid bx1
  have HA := Lib.hid ha; have HS := Lib.hid hS; have AL := Lib.hid hal
  clear B0 b1 bx0 bx1 ha2 ha hS hj hal
  obtain ⟨k0, h0, s0, la, ll, lc, ka, kl, kc, va, vl, vc⟩ := a
  unfold VC.val VC.arr VC.nil at *
  go_enter Tryz.func10, Tryz.ntmps10
  go_wp2_with fail
  refine V1.out.mono ?_
  rintro e w1 ⟨rfl, hb2⟩
  have HB2 := Lib.hid hb2
  clear hb2
  go_wp2_with fail
  refine (Array_any _ _ _ w1).mono ?_
  rintro e w2 ⟨rfl, hb3⟩
  have HB3 := Lib.hid hb3
  clear hb3
  have V2 := Lib.hid (Vague_any _ (.arr []) _ w2 _ (Nat.le_refl _) JOK.arr0 (VR.arr0 w2) (fun b h => h.elim))
  unfold VC.val VC.arr VC.nil at V2 ⊢
  have W2 := Lib.hid ((HB1.out.trans (HB2.out.mono HB1.out.size)).trans (HB3.out.mono (Nat.le_trans HB1.out.size HB2.out.size)))
  go_wp2_with fail
  refine V2.out.mono ?_
  rintro e w3 ⟨rfl, hb4⟩
  have W3 := Lib.hid (W2.out.trans (hb4.mono W2.out.size))
  have m1 : w.heap.size + 2 ≤ w1.heap.size := by have := HB2.out.size; simpa using this
  have m2 := HB3.out.size
  have m3 := hb4.size
  have bt : Below (w.heap.size + 2) ((w.alloc (.cells #[.int .i64 k0, .int .i64 h0, .string s0, .slice la ll lc, .slice ka kl kc, .slice va vl vc] 26)).alloc (.cells #[.int .i64 0, .int .i64 0, .string ByteArray.empty, .slice none 0 0, .slice none 0 0, .slice none 0 0] 26)) w3 :=
    ((HB2.out.mono (by simp)).trans (HB3.out.mono (by omega))).trans (hb4.mono (by omega))
  have b0 := BX0.out.below bt (by omega)
  have q0 := b0.c0; have q1 := b0.c1; have q2 := b0.c2; have q3 := b0.c3; have q4 := b0.c4; have q5 := b0.c5
  have BT := Lib.hid bt
  have L := Lib.hid (fun w' (hb : Below w3.heap.size w3 w') => AL.out w' (HA.out.go (fun b h => (W3.out.trans (hb.mono W3.out.size)).block b (HS.out b h)) (fun _ h => h)) (Nat.le_trans W3.out.size hb.size))
  clear hb4 bt b0
  go_wp2_with fail
  refine (L.out _ ?_).mono ?_
  · exact Below.refl _ _
  rintro e w4 ⟨c9, rfl, hv, hb5⟩
  have bx := BX1.out.below (BT.out.trans (hb5.mono (by omega))) (by omega)
  clear q0 q1 q2 q3 q4 q5
  have q0 := bx.c0; have q1 := bx.c1; have q2 := bx.c2; have q3 := bx.c3; have q4 := bx.c4; have q5 := bx.c5; have qf := bx.fr; have lt := bx.lt
  have HB5 := Lib.hid hb5; have HV := Lib.hid hv
  clear bx hb5 hv
  obtain ⟨k9, h9, s9, la9, ll9, lc9, ka9, kl9, kc9, va9, vl9, vc9⟩ := c9
  unfold VC.val VC.arr
  go_wp2_with fail
  refine bodyPost_ret (v := .tuple #[.agg #[.int .i64 k9, .int .i64 h9, .string s9, .slice la9 ll9 lc9, .slice ka9 kl9 kc9, .slice va9 vl9 vc9], .int .i64 o.how]) (by simp [results, Tryz.results10, go_sem, q0, q1, q2, q3, q4, q5]) rfl ?_
  exact spec_in (w := w) (w1 := w4) (N := w.heap.size + 1) (lo := w3.heap.size) ⟨k9, h9, s9, la9, ll9, lc9, ka9, kl9, kc9, va9, vl9, vc9⟩ o (W3.out.trans (HB5.out.mono W3.out.size)) (by omega) (by omega) HS.out HV.out

set_option maxRecDepth 100000 in
theorem alone_add {S : Nat → Prop} (l : List J) (a : VC) {w : World} (hl : l.length ≤ 400) (hj : ∀ x ∈ l, JOK x ∧ x.text.size ≤ 2000) (hp : parts l ≤ 400) (ha : VR w S (.arr l) a) (hS : ∀ b, S b → b < w.heap.size) :
    Calls Tryz.prog 24 #[.string ⟨#[97, 100, 100]⟩, a.val] w (SpecIn S w (addJ .null l)) := by
  obtain ⟨hb0, bx0, bx1⟩ := box_pair w a
  have H := Lib.hid (sarray_add (S := S) l a (w := ((w.alloc (.cells a.arr 26)).alloc (.cells VC.nil.arr 26))) hl hj hp (ha.go (fun b h => hb0.block b (hS b h)) (fun _ h => h)) (fun b h => Nat.lt_of_lt_of_le (hS b h) hb0.size))
  have HB0 := Lib.hid hb0; have BX := Lib.hid bx1; have HS := Lib.hid hS
  clear hb0 bx0 bx1 ha hl hj hp hS
  generalize addJ .null l = o at *
  obtain ⟨k0, h0, s0, la, ll, lc, ka, kl, kc, va, vl, vc⟩ := a
  unfold VC.val VC.arr VC.nil at *
  go_enter Tryz.func24, Tryz.ntmps24
  go_wp2_with fail
  refine H.out.mono ?_
  rintro e w1 ⟨c9, rfl, hv, hb1⟩
  have bx := BX.out.below hb1 (by simp)
  have q0 := bx.c0; have q1 := bx.c1; have q2 := bx.c2; have q3 := bx.c3; have q4 := bx.c4; have q5 := bx.c5; have qf := bx.fr; have lt := bx.lt
  have HB1 := Lib.hid hb1; have HV := Lib.hid hv
  clear bx hb1 hv
  obtain ⟨k9, h9, s9, la9, ll9, lc9, ka9, kl9, kc9, va9, vl9, vc9⟩ := c9
  unfold VC.val VC.arr
  go_wp2_with fail
  refine bodyPost_ret (v := .tuple #[.agg #[.int .i64 k9, .int .i64 h9, .string s9, .slice la9 ll9 lc9, .slice ka9 kl9 kc9, .slice va9 vl9 vc9], .int .i64 o.how]) (by simp [results, Tryz.results24, go_sem, q0, q1, q2, q3, q4, q5]) rfl ?_
  exact spec_in (w := w) (w1 := w1) (N := w.heap.size + 1) (lo := w.heap.size + 1 + 1) ⟨k9, h9, s9, la9, ll9, lc9, ka9, kl9, kc9, va9, vl9, vc9⟩ o (HB0.out.trans (HB1.out.mono HB0.out.size)) (by omega) (by omega) HS.out (fun j hj => (HV.out j hj).mono (fun b hb => hb.imp (fun h => h) (fun h => ⟨by have := h.1; simp at this; omega, h.2⟩)))


theorem Call_add {S : Nat → Prop} (l : List J) (a : VC) {w : World} (hok : JOK (.arr l)) (hl : l.length ≤ 400) (hj : ∀ x ∈ l, JOK x ∧ x.text.size ≤ 2000) (hp : parts l ≤ 400) (ha : VR w S (.arr l) a) (hS : ∀ b, S b → b < w.heap.size) :
    Calls Tryz.prog 10 #[.string ⟨#[97, 100, 100]⟩, a.val, .slice none 0 0] w (SpecIn S w (addJ .null l)) :=
  Call_alone_add _ _ a hok ha hS fun _ hv hw => alone_add l a hl hj hp hv (fun b hb => Nat.lt_of_lt_of_le (hS b hb) hw)
end Go.Proofs.YtfgmegfgifeaiaaGreatDoor
