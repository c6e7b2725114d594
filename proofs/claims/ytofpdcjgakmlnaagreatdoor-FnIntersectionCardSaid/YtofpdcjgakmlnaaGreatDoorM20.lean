/- impl.fromGo and impl.result of every right JSON value, as the package has it. A part of the proof. A part of the proof. A part of the proof. A part of the proof. A part of the proof. A part of the proof. A part of the proof. -/
import Derived.Test.YtofpdcjgakmlnaaGreatDoorZHalf
import Derived.Test.YtofpdcjgakmlnaaGreatDoorM19
import Derived.Test.YtofpdcjgakmlnaaGreatDoorTypes
import Derived.Test.YtofpdcjgakmlnaaGreatDoorM11
import Derived.Test.YtofpdcjgakmlnaaGreatDoorM12
import Derived.Test.YtofpdcjgakmlnaaGreatDoorM14
namespace Go.Proofs.YtofpdcjgakmlnaaGreatDoor
open Go.RowKit

/-- A right JSON value, of whatever size is met. -/
def JW (j : J) : Prop :=
  (-18014398509481984 ≤ j.half ∧ j.half ≤ 18014398509481984 ∧ (j.half % 2 = 0 ∨ (-9007199254740992 < j.half ∧ j.half < 9007199254740992))) ∧
    j.list.length ≤ 1000000 ∧ j.ents.length ≤ 1000000 ∧ (∀ i (_ : i < j.list.length), JW j.list[i]) ∧ (∀ i (_ : i < j.ents.length), j.ents[i].1.size ≤ 1000000) ∧
    (∀ i (_ : i + 1 < j.ents.length), Op.bytesLess j.ents[i].1.toList j.ents[i + 1].1.toList = true) ∧ ∀ i (_ : i < j.ents.length), JW j.ents[i].2
termination_by SizeOf.sizeOf j
decreasing_by
  · exact sizeOf_list j ‹_›
  · exact sizeOf_ents j ‹_›

theorem JOK.jw : ∀ (n : Nat) {j : J}, SizeOf.sizeOf j ≤ n → JOK j → JW j
  | 0, j, hn, _ => by cases j <;> simp at hn
  | n + 1, j, hn, h => by
    rw [JOK] at h
    rw [JW]
    obtain ⟨h1, _, h3, h4, h5, h6, h7, h8⟩ := h
    exact ⟨h1, by omega, by omega, fun i hi => JOK.jw n (by have := sizeOf_list j hi; omega) (h5 i hi), fun i hi => by have := h6 i hi; omega, h7, fun i hi => JOK.jw n (by have := sizeOf_ents j hi; omega) (h8 i hi)⟩

theorem VR.str (w : World) (S : Nat → Prop) (s : ByteArray) : VR w S (.str s) {VC.nil with k := 4, s := s} := by
  rw [VR]
  refine ⟨⟨rfl, rfl, rfl, rfl, rfl, rfl, Nat.le_refl _, Nat.le_refl _, Nat.le_refl _, fun _ => rfl, fun _ => rfl, fun _ => rfl⟩, fun i hi => ?_, fun i hi => ?_, fun i hi => ?_⟩
  · simp [J.list] at hi
  · simp [J.ents] at hi
  · simp [J.ents] at hi
theorem VR.null (w : World) (S : Nat → Prop) : VR w S .null VC.nil := by
  rw [VR]
  refine ⟨⟨rfl, rfl, rfl, rfl, rfl, rfl, Nat.le_refl _, Nat.le_refl _, Nat.le_refl _, fun _ => rfl, fun _ => rfl, fun _ => rfl⟩, fun i hi => ?_, fun i hi => ?_, fun i hi => ?_⟩
  · simp [J.list] at hi
  · simp [J.ents] at hi
  · simp [J.ents] at hi

set_option maxRecDepth 100000 in
set_option maxHeartbeats 2000000 in
theorem fromGo_any (n : Nat) : ∀ (j : J) (v : Value) (w : World) (S : Nat → Prop), SizeOf.sizeOf j ≤ n → JW j → JR w S j v → (∀ b, S b → b < w.heap.size) → Calls Tryz.prog 18 #[v] w (FromGoPost w j) := by
  induction n with
  | zero => intro j v w S hn; cases j <;> simp at hn
  | succ n ih =>
    intro j v w S hn hok hV hS
    have hb0 : Below w.heap.size w (w.alloc (.cells VC.nil.arr 27)) := (Below.refl _ _).alloc (Nat.le_refl _) _
    have E0 := Lib.hid (box_alloc w VC.nil)
    have hsz0 : (w.alloc (.cells VC.nil.arr 27)).heap.size = w.heap.size + 1 := by simp
    cases j with
    | null =>
      obtain rfl := hV.head
      clear ih hV hok hn hS hb0 hsz0 E0
      go_enter Tryz.func18, Tryz.ntmps18
      go_wp2_with fail
      exact bodyPost_ret (v := .tuple #[VC.nil.val, .bool true]) (by simp [results, Tryz.results18, go_sem]; rfl) rfl ⟨_, rfl, VR.null _ _, (Below.refl _ _).alloc (Nat.le_refl _) _⟩
    | bool b =>
      obtain rfl := hV.head
      clear ih hV hok hn hS hb0 hsz0 E0
      cases b
      all_goals
        refine (fromGo_bool _ w).mono ?_
        rintro e w' ⟨rfl, hb⟩
        exact ⟨_, rfl, VR.bool _ _ _, hb⟩
    | num x =>
      have hh := hV.head
      simp only [JHead] at hh
      rw [JW] at hok
      simp only [J.half] at hok
      obtain ⟨⟨o1, o2, o3⟩, o4⟩ := hok
      clear ih hV hn o4
      by_cases he : x % 2 = 0
      · rw [if_pos he] at hh
        subst hh
        refine (fromGo_int (x / 2) w (by omega) (by omega)).mono ?_
        rintro e w' ⟨rfl, hb⟩
        rw [show 2 * (x / 2) = x by omega]
        exact ⟨_, rfl, VR.num _ _ _, hb⟩
      · rw [if_neg he] at hh
        subst hh
        have x0 : x ≠ 0 := by omega
        have x1 : -9007199254740992 < x := by omega
        have x2 : x < 9007199254740992 := by omega
        have hop : ∀ t w, (binOp .mul t (.float .f64 4611686018427387904) (.float .f64 (fb x))).run Tryz.prog w = .ok (.float .f64 (FloatKind.f64.nearest x)) w := fun t w => run_float_arith w .mul t .f64 _ _ _ (two_half x0 x1 x2)
        have H := Lib.hid fun w' => half_whole x0 x1 x2 w'
        have HB0 := Lib.hid hb0; have Z0 := Lib.hid hsz0
        clear he o1 o2 o3 x0 x1 x2 hb0 hS hsz0
        generalize FloatKind.f64.nearest x = X at *
        generalize fb x = Y at *
        unfold VC.nil VC.arr at *
        unfold numVC VC.val VC.arr VC.nil at H
        go_enter Tryz.func18, Tryz.ntmps18
        go_wp2_with (simp only [hop])
        refine (H.out _).mono ?_
        rintro e w1 ⟨rfl, hb1⟩
        have x0 := E0.out.below hb1 (by simp)
        have m0 := x0.c0; have m1 := x0.c1; have m2 := x0.c2; have m3 := x0.c3; have m4 := x0.c4; have m5 := x0.c5; have mf := x0.fr; have lt0 := x0.lt
        have HB1 := Lib.hid hb1
        simp only at m0 m1 m2 m3 m4 m5
        clear x0 hb1
        go_wp2_with fail
        refine bodyPost_ret (v := .tuple #[.agg #[.int .i64 3, .int .i64 x, .string ByteArray.empty, .slice none 0 0, .slice none 0 0, .slice none 0 0], .bool true]) (by simp [results, Tryz.results18, go_sem, m0, m1, m2, m3, m4, m5]) rfl ?_
        show FromGoPost w (.num x) (.returned (.tuple #[VC.val (numVC x), .bool true])) (valStored w1 w.heap.size (numVC x))
        exact ⟨_, rfl, VR.num _ _ _, valStored_below (HB0.out.trans (HB1.out.mono HB0.out.size)) (Nat.le_refl _)⟩
    | str s =>
      obtain rfl := hV.head
      clear ih hV hok hn hS hb0 hsz0 E0
      go_enter Tryz.func18, Tryz.ntmps18
      go_wp2_with fail
      exact bodyPost_ret (v := .tuple #[.agg #[.int .i64 4, .int .i64 0, .string s, .slice none 0 0, .slice none 0 0, .slice none 0 0], .bool true]) (by simp [results, Tryz.results18, go_sem]) rfl ⟨{VC.nil with k := 4, s := s}, rfl, VR.str _ _ _, (Below.refl _ _).alloc (Nat.le_refl _) _⟩
    | arr l =>
      obtain ⟨a, cap, rfl, hel⟩ := hV.arr
      rw [JW] at hok
      have L := listFromGo_any (S := S) (l := l) (a := a) (cap := cap) (w := w.alloc (.cells VC.nil.arr 27)) hok.2.1 (fun b h => by have := hS b h; omega)
        (fun i hi => by
          obtain ⟨b, o, x, h1, h2, h3, h4⟩ := hel i hi
          exact ⟨b, o, x, h1, h2, (hb0.cell (p := ⟨b, o + i, none⟩) (hS b h2)).trans h3, h4.go (fun b h => hb0.block b (hS b h)) (fun _ h => h)⟩)
        (fun i hi x w' S' hx hS' => ih l[i] x w' S' (by have := sizeOf_list (.arr l) (i := i) hi; simp only [J.list] at this; omega) (hok.2.2.2.1 i hi) hx hS')
      have LL := Lib.hid L; have HB0 := Lib.hid hb0; have Z0 := Lib.hid hsz0
      clear ih hV hok hn L hb0 hel hS hsz0
      unfold VC.nil VC.arr at *
      go_enter Tryz.func18, Tryz.ntmps18
      go_wp2_with fail
      refine LL.out.mono ?_
      rintro e w1 ⟨c, rfl, hV, hb1⟩
      have x0 := E0.out.below hb1 (by simp)
      have m0 := x0.c0; have m1 := x0.c1; have m2 := x0.c2; have m3 := x0.c3; have m4 := x0.c4; have m5 := x0.c5; have mf := x0.fr; have lt0 := x0.lt
      have HB1 := Lib.hid hb1; have HV := Lib.hid hV
      simp only at m0 m1 m2 m3 m4 m5
      clear x0 hb1 hV
      obtain ⟨k9, h9, s9, la9, ll9, lc9, ka9, kl9, kc9, va9, vl9, vc9⟩ := c
      unfold VC.val VC.arr
      go_wp2_with fail
      refine bodyPost_ret (v := .tuple #[.agg #[.int .i64 k9, .int .i64 h9, .string s9, .slice la9 ll9 lc9, .slice ka9 kl9 kc9, .slice va9 vl9 vc9], .bool true]) (by simp [results, Tryz.results18, go_sem, m0, m1, m2, m3, m4, m5]) rfl ?_
      show FromGoPost w (.arr l) (.returned (.tuple #[VC.val ⟨k9, h9, s9, la9, ll9, lc9, ka9, kl9, kc9, va9, vl9, vc9⟩, .bool true])) (valStored w1 w.heap.size ⟨k9, h9, s9, la9, ll9, lc9, ka9, kl9, kc9, va9, vl9, vc9⟩)
      exact ⟨_, rfl, HV.out.stored (by simp) (by simp), valStored_below (HB0.out.trans (HB1.out.mono HB0.out.size)) (Nat.le_refl _)⟩
    | obj m =>
      obtain ⟨b, mv, rfl, hbS, hM, hp, hel⟩ := hV.obj
      rw [JW] at hok
      have L := mapFromGo_any (S := S) (m := m) (b := b) (mv := mv) (w := w.alloc (.cells VC.nil.arr 27)) hok.2.2.1 (fun b h => by have := hS b h; omega) hok.2.2.2.2.2.1 hok.2.2.2.2.1 hbS (hM.same (hb0.block b (hS b hbS))) hp
        (fun i hi => by
          obtain ⟨x, h1, h2⟩ := hel i hi
          exact ⟨x, h1, h2.go (fun b h => hb0.block b (hS b h)) (fun _ h => h)⟩)
        (fun i hi x w' S' hx hS' => ih m[i].2 x w' S' (by have := sizeOf_ents (.obj m) (i := i) hi; simp only [J.ents] at this; omega) (hok.2.2.2.2.2.2 i hi) hx hS')
      have LL := Lib.hid L; have HB0 := Lib.hid hb0; have Z0 := Lib.hid hsz0
      clear ih hV hok hn L hb0 hel hS hsz0 hM hp
      unfold VC.nil VC.arr at *
      go_enter Tryz.func18, Tryz.ntmps18
      go_wp2_with fail
      refine LL.out.mono ?_
      rintro e w1 ⟨c, rfl, hV, hb1⟩
      have x0 := E0.out.below hb1 (by simp)
      have m0 := x0.c0; have m1 := x0.c1; have m2 := x0.c2; have m3 := x0.c3; have m4 := x0.c4; have m5 := x0.c5; have mf := x0.fr; have lt0 := x0.lt
      have HB1 := Lib.hid hb1; have HV := Lib.hid hV
      simp only at m0 m1 m2 m3 m4 m5
      clear x0 hb1 hV
      obtain ⟨k9, h9, s9, la9, ll9, lc9, ka9, kl9, kc9, va9, vl9, vc9⟩ := c
      unfold VC.val VC.arr
      go_wp2_with fail
      refine bodyPost_ret (v := .tuple #[.agg #[.int .i64 k9, .int .i64 h9, .string s9, .slice la9 ll9 lc9, .slice ka9 kl9 kc9, .slice va9 vl9 vc9], .bool true]) (by simp [results, Tryz.results18, go_sem, m0, m1, m2, m3, m4, m5]) rfl ?_
      show FromGoPost w (.obj m) (.returned (.tuple #[VC.val ⟨k9, h9, s9, la9, ll9, lc9, ka9, kl9, kc9, va9, vl9, vc9⟩, .bool true])) (valStored w1 w.heap.size ⟨k9, h9, s9, la9, ll9, lc9, ka9, kl9, kc9, va9, vl9, vc9⟩)
      exact ⟨_, rfl, HV.out.stored (by simp) (by simp), valStored_below (HB0.out.trans (HB1.out.mono HB0.out.size)) (Nat.le_refl _)⟩

/-- A value of the package is no error. -/
theorem JR.noError {w : World} {S : Nat → Prop} {j : J} {v : Value} (h : JR w S j v) (w' : World) : (Instr.typeAssert v 20 55 true).run Tryz.prog w' = .ok (.tuple #[.nilIface, .bool false]) w' := by
  have h := h.head
  cases j with
  | null => obtain rfl := h; exact as_nil_error w'
  | bool b => obtain rfl := h; exact as_bool_error _ w'
  | num x =>
    simp only [JHead] at h
    by_cases he : x % 2 = 0
    · rw [if_pos he] at h
      subst h
      exact as_int_error _ w'
    · rw [if_neg he] at h
      subst h
      exact as_float_error _ w'
  | str s => obtain rfl := h; exact as_string_error _ w'
  | arr l => obtain ⟨a, cap, rfl⟩ := h; exact as_anys_error _ w'
  | obj m => obtain ⟨b, rfl⟩ := h; exact as_map_error _ w'

/-- What result leaves of a value. -/
def ResultPost (w : World) (j : J) (e : Ending) (w' : World) : Prop := ∃ c, e = .returned (resVal c 0) ∧ VR w' (New w.heap.size w') j c ∧ Below w.heap.size w w'

theorem result_any (j : J) (v : Value) (w : World) (S : Nat → Prop) (hj : JW j) (hV : JR w S j v) (hS : ∀ b, S b → b < w.heap.size) : Calls Tryz.prog 11 #[v] w (ResultPost w j) := by
  have hne := fun w' => hV.noError w'
  have form := hV.form
  have hb0 : Below w.heap.size w (w.alloc (.cells #[.int .i64 0, .int .i64 0, .string ByteArray.empty, .slice none 0 0, .slice none 0 0, .slice none 0 0, .int .i64 0] 30)) := (Below.refl _ _).alloc (Nat.le_refl _) _
  have F := Lib.hid (fromGo_any (SizeOf.sizeOf j) j v (w.alloc (.cells #[.int .i64 0, .int .i64 0, .string ByteArray.empty, .slice none 0 0, .slice none 0 0, .slice none 0 0, .int .i64 0] 30)) S (Nat.le_refl _) hj
    (hV.go (fun b h => hb0.block b (hS b h)) (fun _ h => h)) (fun b h => Nat.lt_of_lt_of_le (hS b h) hb0.size))
  have RB := Lib.hid (resbox_alloc w VC.nil 0)
  have HB0 := Lib.hid hb0
  clear hV hS hj hb0
  unfold VC.nil at RB
  rcases form with rfl | ⟨t, u, rfl⟩
  all_goals
    go_enter Tryz.func11, Tryz.ntmps11
    go_wp2_with (simp only [hne])
    refine F.out.mono ?_
    rintro e w1 ⟨c, rfl, hV, hb1⟩
    have rb := RB.out.below hb1 (by simp)
    have q0 := rb.c0; have q1 := rb.c1; have q2 := rb.c2; have q3 := rb.c3; have q4 := rb.c4; have q5 := rb.c5; have q6 := rb.c6; have qf := rb.fr
    have lt := rb.lt
    have HB1 := Lib.hid hb1; have HV := Lib.hid hV
    clear rb hb1 hV
    obtain ⟨k9, h9, s9, la9, ll9, lc9, ka9, kl9, kc9, va9, vl9, vc9⟩ := c
    unfold VC.val VC.arr
    go_wp2_with fail
    refine bodyPost_ret (v := .agg #[.int .i64 k9, .int .i64 h9, .string s9, .slice la9 ll9 lc9, .slice ka9 kl9 kc9, .slice va9 vl9 vc9, .int .i64 0]) (by simp [results, Tryz.results11, go_sem, q0, q1, q2, q3, q4, q5, q6, lt]) rfl ?_
    have sz := HB1.out.size
    simp only [World.size_alloc] at sz
    have hr : Below w.heap.size w (resStored w1 w.heap.size ⟨k9, h9, s9, la9, ll9, lc9, ka9, kl9, kc9, va9, vl9, vc9⟩ 0) := resStored_below (HB0.out.trans (HB1.out.mono HB0.out.size)) (Nat.le_refl _)
    have hz : (resStored w1 w.heap.size ⟨k9, h9, s9, la9, ll9, lc9, ka9, kl9, kc9, va9, vl9, vc9⟩ 0).heap.size = w1.heap.size := resStored_size
    refine ⟨⟨k9, h9, s9, la9, ll9, lc9, ka9, kl9, kc9, va9, vl9, vc9⟩, rfl, ?_, ?_⟩
    · show VR ((resStored w1 w.heap.size ⟨k9, h9, s9, la9, ll9, lc9, ka9, kl9, kc9, va9, vl9, vc9⟩ 0).alloc _) (New w.heap.size ((resStored w1 w.heap.size ⟨k9, h9, s9, la9, ll9, lc9, ka9, kl9, kc9, va9, vl9, vc9⟩ 0).alloc _)) j _
      refine HV.out.go (fun b hb => ?_) (fun b hb => ⟨by have := hb.1; simp at this; omega, by rw [World.size_alloc, hz]; have := hb.2; omega⟩)
      rw [Below.heap_alloc _ _ _ (by rw [hz]; exact hb.2)]
      exact resStored_block (by have := hb.1; simp at this; omega)
    · exact hr.alloc (by rw [hz]; omega) _
end Go.Proofs.YtofpdcjgakmlnaaGreatDoor

namespace Go.Proofs.YtofpdcjgakmlnaaGreatDoor
open Go.RowKit

@[go_sem] theorem as_f0err_error (v : Value) (w : World) : (Instr.typeAssert (.iface 143 v) 20 55 true).run Tryz.prog w = .ok (.tuple #[.iface 143 v, .bool true]) w := run_typeAssert_hasB Tryz.underlying55 (by kernel_rfl) v 20 w

/-- What a function of the package gives: an error, or a value in blocks of S and new memory. -/
def GIn (S : Nat → Prop) (w : World) (o : Out) (e : Ending) (w' : World) : Prop :=
  match o with
  | .silent => True
  | .raises => ∃ v, e = .returned v ∧ IsErr v ∧ Below w.heap.size w w'
  | .value j => ∃ v, e = .returned v ∧ JR w' (fun b => S b ∨ New w.heap.size w' b) j v ∧ Below w.heap.size w w'

/-- Values of the package in a row that a call owns, each a reading in blocks of S. -/
def ARow (lo : Nat) (S : Nat → Prop) (l : List J) (v : Value) (xs : List Value) (w : World) : Prop :=
  w.ownsRow lo 20 1 v xs.length xs ∧ xs.length = l.length ∧ ∀ i (_ : i < l.length) (h : i < xs.length), JR w S l[i] xs[i]

theorem ARow.jr {lo : Nat} {S : Nat → Prop} {l : List J} {a : Option Addr} {n cap : Nat} {xs : List Value} {w : World} (h : ARow lo S l (.slice a n cap) xs w) (hn : n = l.length) :
    JR w (fun b => S b ∨ New lo w b) (.arr l) (.iface 48 (.slice a n cap)) := by
  subst hn
  refine JR.of_arr fun i hi => ?_
  have hx : i < xs.length := by have := h.2.1; omega
  obtain ⟨g, cap', e, hg, hlt⟩ := h.1.form (by omega)
  have e' := e
  simp only [Value.slice.injEq] at e'
  obtain ⟨rfl, _, rfl⟩ := e'
  have hc := h.1.cells (g := g) rfl i xs[i] (by simp [hx])
  rw [addr_add] at hc
  exact ⟨g, 0, xs[i], rfl, Or.inr ⟨hg, hlt⟩, hc, (h.2.2 i hi hx).mono (fun b hb => Or.inl hb)⟩

theorem result_in {o : Out} (hok : ∀ j, o = .value j → JW j) (ho : o ≠ .silent) {w w1 : World} {e : Ending} {S : Nat → Prop} (h : GIn S w o e w1) (hS : ∀ b, S b → b < w.heap.size) :
    ∃ v, e = .returned v ∧ Below w.heap.size w w1 ∧ Calls Tryz.prog 11 #[v] w1 fun e w' => ∃ c, e = .returned (resVal c o.how) ∧ (∀ j, o = .value j → VR w' (New w1.heap.size w') j c) ∧ Below w1.heap.size w1 w' := by
  cases o with
  | silent => exact absurd rfl ho
  | raises =>
    obtain ⟨v, rfl, hv, hb⟩ := h
    refine ⟨_, rfl, hb, (result_err v w1 hv).mono ?_⟩
    rintro e w' ⟨rfl, hb1⟩
    exact ⟨_, rfl, (fun j hj => by cases hj), hb1⟩
  | value j =>
    obtain ⟨v, rfl, hG, hb⟩ := h
    refine ⟨_, rfl, hb, (result_any j v w1 _ (hok j rfl) hG (fun b hb' => ?_)).mono ?_⟩
    · rcases hb' with h | h
      · exact Nat.lt_of_lt_of_le (hS b h) hb.size
      · exact h.2
    rintro e w' ⟨c, rfl, hV, hb1⟩
    exact ⟨c, rfl, (fun j hj => by cases hj; exact hV), hb1⟩

/-- A door's result, stored. -/
theorem door_out {o : Out} {w w4 : World} {N lo : Nat} {c : VC} (hz : o ≠ .silent) (hb : Below w.heap.size w w4) (hN : w.heap.size ≤ N) (hlo : N < lo) (hV : ∀ j, o = .value j → VR w4 (New lo w4) j c) :
    DoorOut w o (.returned (resVal c o.how)) (resStored w4 N c o.how) := by
  have hfin : Below w.heap.size w (resStored w4 N c o.how) := resStored_below hb hN
  have hV3 : ∀ j', o = .value j' → VR (resStored w4 N c o.how) (New w.heap.size (resStored w4 N c o.how)) j' c :=
    fun j' hj => (hV j' hj).go (fun b hb => resStored_block (by have := hb.1; omega)) (fun b hb => ⟨by have := hb.1; omega, by rw [resStored_size]; exact hb.2⟩)
  cases o with
  | silent => exact absurd rfl hz
  | raises => exact ⟨_, rfl, hfin⟩
  | value j' => exact ⟨_, rfl, hV3 j' rfl, hfin⟩
end Go.Proofs.YtofpdcjgakmlnaaGreatDoor

namespace Go.Proofs.YtofpdcjgakmlnaaGreatDoor
open Go.RowKit

/-- A made row of which the first m have been filled. -/
def fillRow (f : Nat → Value) (m n : Nat) : List Value := (List.range n).map fun i => if i < m then f i else .nilIface
theorem fillRow_len (f : Nat → Value) (m n : Nat) : (fillRow f m n).length = n := by simp [fillRow]
theorem fillRow_zero (f : Nat → Value) (n : Nat) : fillRow f 0 n = List.replicate n .nilIface := by
  apply List.ext_getElem
  · simp [fillRow]
  · intro i h1 h2; simp [fillRow]
theorem fillRow_set (f : Nat → Value) {m n : Nat} : (fillRow f m n).set m (f m) = fillRow f (m + 1) n := by
  apply List.ext_getElem
  · simp [fillRow]
  · intro i h1 h2
    rw [List.getElem_set]
    simp only [fillRow, List.getElem_map, List.getElem_range]
    by_cases e : m = i
    · subst e; simp
    · simp only [e, if_false]
      by_cases h3 : i < m
      · simp [h3, show i < m + 1 by omega]
      · simp [h3, show ¬ i < m + 1 by omega]
theorem fillRow_get (f : Nat → Value) {m n i : Nat} (h : i < m) (hi : i < (fillRow f m n).length) : (fillRow f m n)[i] = f i := by
  simp [fillRow, h]

/-- A row that is filled reads as an array. -/
theorem JR.filled {w : World} {S : Nat → Prop} {N cap : Nat} {f : Nat → Value} {l : List J} (hA : Arr w N 20 (fillRow f l.length l.length)) (hS : S N) (h : ∀ i (_ : i < l.length), JR w S l[i] (f i)) :
    JR w S (.arr l) (.iface 48 (.slice (some ⟨N, 0, none⟩) l.length cap)) := by
  refine JR.of_arr fun i hi => ⟨N, 0, f i, rfl, hS, ?_, h i hi⟩
  have h1 : i < (fillRow f l.length l.length).length := by rw [fillRow_len]; exact hi
  have := hA.cell h1
  rw [fillRow_get f hi h1] at this
  simpa using this
end Go.Proofs.YtofpdcjgakmlnaaGreatDoor

namespace Go.Proofs.YtofpdcjgakmlnaaGreatDoor
open Go.RowKit

/-- The keys of an array or object, and its values. -/
def keysJ : J → List J
  | .arr l => (List.range l.length).map fun i : Nat => .num (2 * (i : Int))
  | .obj m => m.map fun p => .str p.1
  | _ => []
def valsJ : J → List J
  | .arr l => l
  | .obj m => m.map (·.2)
  | _ => []
/-- An array or an object. -/
def Holds : J → Prop | .arr _ => True | .obj _ => True | _ => False

theorem keys_vals_len (j : J) : (keysJ j).length = (valsJ j).length := by cases j <;> simp [keysJ, valsJ]
theorem vals_len {j : J} (hj : JOK j) : (valsJ j).length ≤ 400 := by
  rw [JOK] at hj
  cases j with
  | arr l => exact hj.2.2.1
  | obj m => have := hj.2.2.2.1; simpa [valsJ, J.ents] using this
  | _ => simp [valsJ]

theorem JOK.leafs {j : J} (hh : (-18014398509481984 ≤ j.half ∧ j.half ≤ 18014398509481984 ∧ (j.half % 2 = 0 ∨ (-9007199254740992 < j.half ∧ j.half < 9007199254740992)))) (ht : j.text.size ≤ 1000000) (hl : j.list = []) (he : j.ents = []) : JOK j := by
  rw [JOK]
  refine ⟨hh, ht, by simp [hl], by simp [he], fun i hi => ?_, fun i hi => ?_, fun i hi => ?_, fun i hi => ?_⟩
  · simp [hl] at hi
  · simp [he] at hi
  · simp [he] at hi
  · simp [he] at hi
theorem JOK.list_of {l : List J} (hl : l.length ≤ 400) (h : ∀ x ∈ l, JOK x) : JOK (.arr l) := by
  rw [JOK]
  refine ⟨by simp [J.half], by simp [J.text, ByteArray.size], hl, by simp [J.ents], fun i hi => h _ (List.getElem_mem _), fun i hi => ?_, fun i hi => ?_, fun i hi => ?_⟩
  · simp [J.ents] at hi
  · simp [J.ents] at hi
  · simp [J.ents] at hi

theorem keys_ok {j : J} (hj : JOK j) : ∀ x ∈ keysJ j, JOK x := by
  intro x hx
  cases j with
  | arr l =>
    have hl : l.length ≤ 400 := by rw [JOK] at hj; exact hj.2.2.1
    obtain ⟨i, hi, rfl⟩ := List.mem_map.1 hx
    have hi' := List.mem_range.1 hi
    exact .leafs (by simp only [J.half]; omega) (by simp [J.text, ByteArray.size]) rfl rfl
  | obj m =>
    rw [JOK] at hj
    obtain ⟨p, hp, rfl⟩ := List.mem_map.1 hx
    obtain ⟨i, hi, rfl⟩ := List.getElem_of_mem hp
    exact .leafs (by simp [J.half]) (by have := hj.2.2.2.2.2.1 i hi; simp only [J.ents] at this; simp only [J.text]; omega) rfl rfl
  | _ => cases hx
theorem vals_ok {j : J} (hj : JOK j) : ∀ x ∈ valsJ j, JOK x := by
  intro x hx
  cases j with
  | arr l => obtain ⟨i, hi, rfl⟩ := List.getElem_of_mem hx; exact hj.list hi
  | obj m =>
    obtain ⟨p, hp, rfl⟩ := List.mem_map.1 hx
    obtain ⟨i, hi, rfl⟩ := List.getElem_of_mem hp
    exact hj.ents hi
  | _ => cases hx
theorem keys_all {j : J} (hj : JOK j) : JOK (.arr (keysJ j)) := .list_of (by rw [keys_vals_len]; exact vals_len hj) (keys_ok hj)
theorem vals_all {j : J} (hj : JOK j) : JOK (.arr (valsJ j)) := .list_of (vals_len hj) (vals_ok hj)
theorem len_ok {j : J} (hj : JOK j) : JOK (.num (2 * ((valsJ j).length : Int))) := by
  have := vals_len hj
  exact .leafs (by simp only [J.half]; omega) (by simp [J.text, ByteArray.size]) rfl rfl
end Go.Proofs.YtofpdcjgakmlnaaGreatDoor

namespace Go.Proofs.YtofpdcjgakmlnaaGreatDoor
open Go.RowKit

/-- A number that is not too great. -/
def NumOk (h : Int) : Prop := -18014398509481984 ≤ h ∧ h ≤ 18014398509481984 ∧ (h % 2 = 0 ∨ (-9007199254740992 < h ∧ h < 9007199254740992))
instance (h : Int) : Decidable (NumOk h) := by unfold NumOk; infer_instance

/-- Is a key ahead of another one? -/
def Lt (a b : ByteArray) : Prop := Op.bytesLess a.toList b.toList = true
instance (a b : ByteArray) : Decidable (Lt a b) := by unfold Lt; infer_instance
theorem Lt.irrefl (a : ByteArray) : ¬ Lt a a := by unfold Lt; rw [less_irrefl]; simp
theorem lt_iff (a b : ByteArray) : Lt a b ↔ a.data.toList < b.data.toList := by
  unfold Lt
  rw [bytesLess_eq, decide_eq_true_eq, ByteArray.toList_eq, ByteArray.toList_eq]
theorem Lt.trans {a b c : ByteArray} (h : Lt a b) (k : Lt b c) : Lt a c := by
  rw [lt_iff] at *; exact List.lt_trans h k
theorem lt_or (a b : ByteArray) : Lt a b ∨ a = b ∨ Lt b a := by
  rw [lt_iff, lt_iff]
  rcases Decidable.em (a.data.toList < b.data.toList) with h | h
  · exact Or.inl h
  · rcases Decidable.em (b.data.toList < a.data.toList) with k | k
    · exact Or.inr (Or.inr k)
    · refine Or.inr (Or.inl ?_)
      have := List.le_antisymm (List.not_lt.1 k) (List.not_lt.1 h)
      cases a; cases b
      simp at this
      rw [this]

/-- Entries whose keys rise. -/
def Rises (m : List (ByteArray × J)) : Prop := m.Pairwise fun p q => Lt p.1 q.1
theorem Rises.of {m : List (ByteArray × J)} (h : ∀ i (_ : i + 1 < m.length), Op.bytesLess m[i].1.toList m[i + 1].1.toList = true) : Rises m := by
  unfold Rises
  rw [List.pairwise_iff_getElem]
  intro i j hi hj hij
  have h2 := rising (ks := m.map (·.1)) (by simpa using h) (j - i - 1) i (by simp; omega)
  have ej : i + (j - i - 1) + 1 = j := by omega
  simp only [ej, List.getElem_map] at h2
  exact h2
theorem Rises.adj {m : List (ByteArray × J)} (h : Rises m) : ∀ i (_ : i + 1 < m.length), Op.bytesLess m[i].1.toList m[i + 1].1.toList = true := fun i hi => by
  unfold Rises at h
  rw [List.pairwise_iff_getElem] at h
  exact h i (i + 1) (by omega) hi (by omega)
theorem Rises.nodup {m : List (ByteArray × J)} (h : Rises m) : (m.map (·.1)).Nodup := by
  unfold Rises at h
  refine List.pairwise_map.2 (h.imp fun {p q} hpq e => ?_)
  rw [e] at hpq
  exact Lt.irrefl _ hpq

/-- An object with a value at a key. -/
def withJ (m : List (ByteArray × J)) (k : ByteArray) (v : J) : List (ByteArray × J) := m.filter (fun p => decide (Lt p.1 k)) ++ (k, v) :: m.filter (fun p => decide (Lt k p.1))
theorem withJ_mem {m : List (ByteArray × J)} {k : ByteArray} {v : J} {p : ByteArray × J} : p ∈ withJ m k v ↔ p = (k, v) ∨ (p ∈ m ∧ p.1 ≠ k) := by
  simp only [withJ, List.mem_append, List.mem_filter, decide_eq_true_eq, List.mem_cons]
  constructor
  · rintro (⟨h1, h2⟩ | rfl | ⟨h1, h2⟩)
    · exact Or.inr ⟨h1, fun e => by rw [e] at h2; exact Lt.irrefl _ h2⟩
    · exact Or.inl rfl
    · exact Or.inr ⟨h1, fun e => by rw [e] at h2; exact Lt.irrefl _ h2⟩
  · rintro (rfl | ⟨h1, h2⟩)
    · exact Or.inr (Or.inl rfl)
    · rcases lt_or p.1 k with h | h | h
      · exact Or.inl ⟨h1, h⟩
      · exact absurd h h2
      · exact Or.inr (Or.inr ⟨h1, h⟩)
theorem withJ_rises {m : List (ByteArray × J)} (h : Rises m) (k : ByteArray) (v : J) : Rises (withJ m k v) := by
  unfold withJ Rises
  refine List.pairwise_append.2 ⟨h.filter _, List.pairwise_cons.2 ⟨fun p hp => ?_, h.filter _⟩, fun p hp q hq => ?_⟩
  · simpa using (List.mem_filter.1 hp).2
  · have h1 : Lt p.1 k := by simpa using (List.mem_filter.1 hp).2
    rcases List.mem_cons.1 hq with rfl | hq
    · exact h1
    · exact h1.trans (by simpa using (List.mem_filter.1 hq).2)
theorem filter_two {α : Type} (p q : α → Bool) (hpq : ∀ x, p x = true → q x = false) : ∀ l : List α, (l.filter p).length + (l.filter q).length ≤ l.length
  | [] => by simp
  | x :: l => by
    have ih := filter_two p q hpq l
    cases hp : p x with
    | true => simp [hp, hpq x hp]; omega
    | false => cases hq : q x <;> simp [hp, hq] <;> omega
theorem withJ_len (m : List (ByteArray × J)) (k : ByteArray) (v : J) : (withJ m k v).length ≤ m.length + 1 := by
  have := filter_two (fun p : ByteArray × J => decide (Lt p.1 k)) (fun p => decide (Lt k p.1)) (fun p h => by
    have h1 : Lt p.1 k := by simpa using h
    have : ¬ Lt k p.1 := fun h2 => Lt.irrefl _ (h1.trans h2)
    simpa using this) m
  simp only [withJ, List.length_append, List.length_cons]
  omega

/-- The sum of two objects. -/
def mergeJ (a b : List (ByteArray × J)) : List (ByteArray × J) := b.foldl (fun m p => withJ m p.1 p.2) a
theorem mergeJ_rises {a : List (ByteArray × J)} : ∀ (b : List (ByteArray × J)), Rises a → Rises (mergeJ a b) := by
  intro b
  induction b generalizing a with
  | nil => intro h; exact h
  | cons p b ih => intro h; exact ih (withJ_rises h p.1 p.2)
theorem mergeJ_len : ∀ (b a : List (ByteArray × J)), (mergeJ a b).length ≤ a.length + b.length
  | [], a => by simp [mergeJ]
  | p :: b, a => by
    have := mergeJ_len b (withJ a p.1 p.2)
    have := withJ_len a p.1 p.2
    simp only [mergeJ, List.foldl_cons, List.length_cons] at *
    omega
theorem mergeJ_mem : ∀ (b a : List (ByteArray × J)) {p : ByteArray × J}, (b.map (·.1)).Nodup → (p ∈ mergeJ a b ↔ p ∈ b ∨ (p ∈ a ∧ p.1 ∉ b.map (·.1)))
  | [], a, p, _ => by simp [mergeJ]
  | q :: b, a, p, hn => by
    have hn' := List.nodup_cons.1 (show (q.1 :: b.map (·.1)).Nodup from hn)
    have ih := mergeJ_mem b (withJ a q.1 q.2) (p := p) hn'.2
    have e : mergeJ a (q :: b) = mergeJ (withJ a q.1 q.2) b := rfl
    rw [e, ih, withJ_mem]
    simp only [List.mem_cons, List.map_cons, not_or]
    constructor
    · rintro (h | ⟨h | ⟨h1, h2⟩, h3⟩)
      · exact Or.inl (Or.inr h)
      · exact Or.inl (Or.inl (by rw [h]))
      · exact Or.inr ⟨h1, h2, h3⟩
    · rintro ((rfl | h) | ⟨h1, h2, h3⟩)
      · exact Or.inr ⟨Or.inl rfl, hn'.1⟩
      · exact Or.inl h
      · exact Or.inr ⟨Or.inr ⟨h1, h2⟩, h3⟩

/-- The sum of two values. -/
def plusJ : J → J → Out
  | .null, b => .value b
  | a, .null => .value a
  | .num a, .num b => if NumOk (a + b) then .value (.num (a + b)) else .silent
  | .str a, .str b => .value (.str (a ++ b))
  | .arr a, .arr b => .value (.arr (a ++ b))
  | .obj a, .obj b => .value (.obj (mergeJ a b))
  | _, _ => .raises
/-- The sum of a value and of those of a list, one after the other. -/
def addJ : J → List J → Out
  | a, [] => .value a
  | a, x :: l => match plusJ a x with | .value b => addJ b l | o => o

/-- What is known of a sum so far: its parts and bytes are not too many. -/
structure SumOk (m n : Nat) (a : J) : Prop where
  ok : JOK a
  text : a.text.size ≤ 2000 * m
  list : a.list.length ≤ n
  ents : a.ents.length ≤ n

theorem JOK.obj_of {m : List (ByteArray × J)} (hl : m.length ≤ 400) (hr : Rises m) (h : ∀ p ∈ m, p.1.size ≤ 2000 ∧ JOK p.2) : JOK (.obj m) := by
  rw [JOK]
  refine ⟨by simp [J.half], by simp [J.text, ByteArray.size], by simp [J.list], hl, fun i hi => ?_, fun i hi => (h _ (List.getElem_mem _)).1, fun i hi => hr.adj i hi, fun i hi => (h _ (List.getElem_mem _)).2⟩
  simp [J.list] at hi
theorem JOK.obj_mem {m : List (ByteArray × J)} (h : JOK (.obj m)) : Rises m ∧ ∀ p ∈ m, p.1.size ≤ 2000 ∧ JOK p.2 := by
  rw [JOK] at h
  refine ⟨.of (by simpa [J.ents] using h.2.2.2.2.2.2.1), fun p hp => ?_⟩
  obtain ⟨i, hi, rfl⟩ := List.getElem_of_mem hp
  exact ⟨h.2.2.2.2.2.1 i hi, h.2.2.2.2.2.2.2 i hi⟩
theorem JOK.arr_mem {l : List J} (h : JOK (.arr l)) : ∀ x ∈ l, JOK x := by
  intro x hx
  obtain ⟨i, hi, rfl⟩ := List.getElem_of_mem hx
  exact h.list (j := .arr l) hi
theorem JOK.text_le {j : J} (h : JOK j) : j.text.size ≤ 1000000 := by rw [JOK] at h; exact h.2.1
theorem JOK.half_ok {x : Int} (h : JOK (.num x)) : NumOk x := by rw [JOK] at h; exact h.1

theorem plus_ok {m n : Nat} {a x b : J} (ha : SumOk m n a) (hx : JOK x) (ht : x.text.size ≤ 2000) (hm : m < 400) (hn : n + x.list.length + x.ents.length ≤ 400) (h : plusJ a x = .value b) : SumOk (m + 1) (n + x.list.length + x.ents.length) b := by
  have h1 := ha.text; have h2 := ha.list; have h3 := ha.ents
  have same : SumOk (m + 1) (n + x.list.length + x.ents.length) a := ⟨ha.ok, by omega, by omega, by omega⟩
  have self : SumOk (m + 1) (n + x.list.length + x.ents.length) x := ⟨hx, by omega, by omega, by omega⟩
  cases a with
  | null => cases h; exact self
  | bool c => cases x <;> cases h <;> exact same
  | num c =>
    cases x with
    | null => cases h; exact same
    | num d =>
      simp only [plusJ] at h
      split at h
      · rename_i ho
        cases h
        exact ⟨.leafs ho (by simp [J.text, ByteArray.size]) rfl rfl, by simp [J.text, ByteArray.size], by simp [J.list], by simp [J.ents]⟩
      · cases h
    | _ => cases h
  | str c =>
    cases x with
    | null => cases h; exact same
    | str d =>
      cases h
      simp only [J.text] at h1 ht
      have e : (c ++ d).size = c.size + d.size := ByteArray.size_append
      exact ⟨.leafs (by simp [J.half]) (by simp only [J.text, e]; omega) rfl rfl, by simp only [J.text, e]; omega, by simp [J.list], by simp [J.ents]⟩
    | _ => cases h
  | arr c =>
    cases x with
    | null => cases h; exact same
    | arr d =>
      cases h
      simp only [J.list, J.ents, List.length_nil, Nat.add_zero] at h2 hn ⊢
      refine ⟨.list_of (by simp; omega) (fun y hy => (List.mem_append.1 hy).elim (ha.ok.arr_mem y) (hx.arr_mem y)), by simp [J.text, ByteArray.size], by simp [J.list]; omega, by simp [J.ents]⟩
    | _ => cases h
  | obj c =>
    cases x with
    | null => cases h; exact same
    | obj d =>
      cases h
      simp only [J.list, J.ents, List.length_nil, Nat.add_zero] at h3 hn ⊢
      have hl := mergeJ_len d c
      refine ⟨.obj_of (by omega) (mergeJ_rises d ha.ok.obj_mem.1) (fun p hp => ?_), by simp [J.text, ByteArray.size], by simp [J.list], by simp only [J.ents]; omega⟩
      rcases (mergeJ_mem d c hx.obj_mem.1.nodup).1 hp with h | h
      · exact hx.obj_mem.2 p h
      · exact ha.ok.obj_mem.2 p h.1
    | _ => cases h
end Go.Proofs.YtofpdcjgakmlnaaGreatDoor

namespace Go.Proofs.YtofpdcjgakmlnaaGreatDoor
open Go.RowKit Ieee

/-- A value of the package, by its kind. -/
inductive Kd where
  | nil
  | bool (b : Bool)
  | int (n : Int)
  | float (X : Nat)
  | str (s : ByteArray)
  | list (a : Option Addr) (n cap : Nat)
  | map (b : Option Nat)
def Kd.val : Kd → Value
  | .nil => .nilIface
  | .bool b => .iface 4 (.bool b)
  | .int n => .iface 3 (.int .i64 n)
  | .float X => .iface 47 (.float .f64 X)
  | .str s => .iface 9 (.string s)
  | .list a n cap => .iface 48 (.slice a n cap)
  | .map b => .iface 51 (.map b)
/-- A number of the package that is c halves. -/
def Kd.is (c : Int) : Kd → Prop
  | .int n => c = 2 * n
  | .float X => Fin64 (double.read X) (hv c)
  | _ => False
/-- Any number, an int within B. -/
def Kd.num (B : Int) : Kd → Prop
  | .int n => -B ≤ n ∧ n ≤ B
  | .float X => NotNaN X
  | _ => False

/-- What one element looks like. -/
def Elem (j : J) (r : Kd) : Prop :=
  match j with
  | .null => r = .nil
  | .bool b => r = .bool b
  | .num h => r.is h ∧ (∃ B, r.num B)
  | .str s => r = .str s
  | .arr l => ∃ a cap, r = .list a l.length cap
  | .obj _ => ∃ b, r = .map (some b)

theorem elem_kd {w : World} {S : Nat → Prop} {j : J} {x : Value} (hj : JOK j) (h : JR w S j x) : ∃ r : Kd, x = r.val ∧ Elem j r := by
  have hh := h.head
  cases j with
  | null => exact ⟨.nil, hh, rfl⟩
  | bool b => exact ⟨.bool b, hh, rfl⟩
  | num n =>
    have hn := hj.half_ok
    simp only [JHead] at hh
    by_cases he : n % 2 = 0
    · rw [if_pos he] at hh
      exact ⟨.int (n / 2), hh, by show n = 2 * (n / 2); omega, ⟨(n / 2).natAbs, by show _ ∧ _; omega⟩⟩
    · rw [if_neg he] at hh
      have h0 := half_odd (h := n) (by omega) (by have := hn.2.2; omega) (by have := hn.2.2; omega)
      exact ⟨.float (fb n), hh, h0, ⟨0, h0.notNaN⟩⟩
  | str s => exact ⟨.str s, hh, rfl⟩
  | arr l => obtain ⟨a, cap, hh⟩ := hh; exact ⟨.list a l.length cap, hh, ⟨a, cap, rfl⟩⟩
  | obj m => obtain ⟨b, hh⟩ := hh; exact ⟨.map (some b), hh, ⟨b, rfl⟩⟩
theorem Kd.form (k : Kd) : k.val = .nilIface ∨ ∃ t y, k.val = .iface t y := by
  cases k with
  | nil => exact .inl rfl
  | _ => exact .inr ⟨_, _, rfl⟩
theorem Kd.noError (k : Kd) (w : World) : (Instr.typeAssert k.val 20 55 true).run Tryz.prog w = .ok (.tuple #[.nilIface, .bool false]) w := by
  cases k with
  | nil => exact as_nil_error w
  | bool b => exact as_bool_error _ w
  | int n => exact as_int_error _ w
  | float X => exact as_float_error _ w
  | str s => exact as_string_error _ w
  | list a n c => exact as_anys_error _ w
  | map b => exact as_map_error _ w
end Go.Proofs.YtofpdcjgakmlnaaGreatDoor

namespace Go.Proofs.YtofpdcjgakmlnaaGreatDoor
open Go.RowKit

/-- How two numbers stand. -/
def sgn (x y : Int) : Int := if x < y then -1 else if x = y then 0 else 1
theorem sgn_anti (x y : Int) : sgn y x = -sgn x y := by unfold sgn; split <;> split <;> (try split) <;> (try split) <;> omega
theorem sgn_zero {x y : Int} : sgn x y = 0 ↔ x = y := by unfold sgn; split <;> (try split) <;> omega
theorem sgn_le {x y : Int} : sgn x y ≤ 0 ↔ x ≤ y := by unfold sgn; split <;> (try split) <;> omega
theorem sgn_three (x y : Int) : sgn x y = -1 ∨ sgn x y = 0 ∨ sgn x y = 1 := by unfold sgn; split <;> (try split) <;> omega

/-- How two texts stand. -/
def cmpB (s t : ByteArray) : Int := if Lt s t then -1 else if s = t then 0 else 1
theorem Lt.asymm {s t : ByteArray} (h : Lt s t) : ¬ Lt t s := fun k => Lt.irrefl _ (h.trans k)
theorem cmpB_anti (s t : ByteArray) : cmpB t s = -cmpB s t := by
  unfold cmpB
  rcases lt_or s t with h | rfl | h
  · rw [if_neg h.asymm, if_neg (fun e => by rw [e] at h; exact Lt.irrefl _ h), if_pos h]; rfl
  · rw [if_neg (Lt.irrefl _), if_pos rfl]; rfl
  · rw [if_pos h, if_neg h.asymm, if_neg (fun e => by rw [e] at h; exact Lt.irrefl _ h)]
theorem cmpB_zero {s t : ByteArray} : cmpB s t = 0 ↔ s = t := by
  unfold cmpB
  constructor
  · intro h
    by_cases h1 : Lt s t
    · rw [if_pos h1] at h; cases h
    · rw [if_neg h1] at h
      by_cases h2 : s = t
      · exact h2
      · rw [if_neg h2] at h; cases h
  · rintro rfl
    rw [if_neg (Lt.irrefl _), if_pos rfl]
theorem cmpB_le {s t : ByteArray} : cmpB s t ≤ 0 ↔ ¬ Lt t s := by
  unfold cmpB
  rcases lt_or s t with h | rfl | h
  · rw [if_pos h]; simp [h.asymm]
  · simp [Lt.irrefl]
  · rw [if_neg h.asymm, if_neg (fun e => by rw [e] at h; exact Lt.irrefl _ h)]; simp [h]
theorem cmpB_trans {s t u : ByteArray} (h1 : cmpB s t ≤ 0) (h2 : cmpB t u ≤ 0) : cmpB s u ≤ 0 := by
  rw [cmpB_le] at *
  intro h
  rcases lt_or s t with h3 | rfl | h3
  · exact h2 (h.trans h3)
  · exact h2 h
  · exact h1 h3
theorem cmpB_three (s t : ByteArray) : cmpB s t = -1 ∨ cmpB s t = 0 ∨ cmpB s t = 1 := by
  unfold cmpB; split
  · exact .inl rfl
  · split
    · exact .inr (.inl rfl)
    · exact .inr (.inr rfl)

/-- How two lists stand: by the first two that differ, else by their lengths. -/
def cmpL {α : Type} (f : α → α → Int) : List α → List α → Int
  | [], [] => 0
  | [], _ :: _ => -1
  | _ :: _, [] => 1
  | x :: xs, y :: ys => if f x y = 0 then cmpL f xs ys else f x y
section
variable {α : Type} {f : α → α → Int}
theorem cmpL_anti (h : ∀ x y, f y x = -f x y) : ∀ l m : List α, cmpL f m l = -cmpL f l m
  | [], [] => rfl
  | [], _ :: _ => rfl
  | _ :: _, [] => rfl
  | x :: xs, y :: ys => by
    simp only [cmpL]
    have e := h x y
    by_cases h0 : f x y = 0
    · rw [if_pos h0, if_pos (by omega), cmpL_anti h xs ys]
    · rw [if_neg h0, if_neg (by omega), e]
theorem cmpL_refl (h : ∀ x, f x x = 0) : ∀ l : List α, cmpL f l l = 0
  | [] => rfl
  | x :: xs => by simp only [cmpL]; rw [if_pos (h x), cmpL_refl h xs]
theorem cmpL_three (h : ∀ x y, f x y = -1 ∨ f x y = 0 ∨ f x y = 1) : ∀ l m : List α, cmpL f l m = -1 ∨ cmpL f l m = 0 ∨ cmpL f l m = 1
  | [], [] => .inr (.inl rfl)
  | [], _ :: _ => .inl rfl
  | _ :: _, [] => .inr (.inr rfl)
  | x :: xs, y :: ys => by
    simp only [cmpL]
    split
    · exact cmpL_three h xs ys
    · exact h x y
theorem cmpL_zero : ∀ {l m : List α}, (∀ x ∈ l, ∀ y ∈ m, f x y = 0 → x = y) → cmpL f l m = 0 → l = m
  | [], [], _, _ => rfl
  | [], _ :: _, _, h => by cases h
  | _ :: _, [], _, h => by cases h
  | x :: xs, y :: ys, hf, h => by
    simp only [cmpL] at h
    split at h
    · rename_i h0
      rw [hf x (by simp) y (by simp) h0, cmpL_zero (fun a ha b hb => hf a (List.mem_cons_of_mem _ ha) b (List.mem_cons_of_mem _ hb)) h]
    · rename_i h0; exact absurd h h0
theorem cmpL_trans (ha : ∀ x y, f y x = -f x y) (ht : ∀ x y z, f x y ≤ 0 → f y z ≤ 0 → f x z ≤ 0) : ∀ l m k : List α, cmpL f l m ≤ 0 → cmpL f m k ≤ 0 → cmpL f l k ≤ 0
  | [], [], _, _, h => h
  | [], _ :: _, [], _, h => by simp [cmpL] at h
  | [], _ :: _, _ :: _, _, _ => by simp [cmpL]
  | _ :: _, [], _, h, _ => by simp [cmpL] at h
  | _ :: _, _ :: _, [], _, h => by simp [cmpL] at h
  | x :: xs, y :: ys, z :: zs, h1, h2 => by
    simp only [cmpL] at *
    have a1 := ha x y; have a2 := ha y z; have a3 := ha x z
    by_cases e1 : f x y = 0
    · rw [if_pos e1] at h1
      by_cases e2 : f y z = 0
      · rw [if_pos e2] at h2
        have e3 : f x z = 0 := by
          have b1 := ht x y z (by omega) (by omega)
          have b2 := ht z y x (by omega) (by omega)
          omega
        rw [if_pos e3]
        exact cmpL_trans ha ht xs ys zs h1 h2
      · rw [if_neg e2] at h2
        have b1 := ht x y z (by omega) (by omega)
        by_cases e3 : f x z = 0
        · exfalso
          have b2 := ht y x z (by omega) (by omega)
          have b3 := ht z x y (by omega) (by omega)
          omega
        · rw [if_neg e3]; exact b1
    · rw [if_neg e1] at h1
      by_cases e2 : f y z = 0
      · have b1 := ht x y z (by omega) (by omega)
        by_cases e3 : f x z = 0
        · exfalso
          have b2 := ht y z x (by omega) (by omega)
          omega
        · rw [if_neg e3]; exact b1
      · rw [if_neg e2] at h2
        have b1 := ht x y z (by omega) (by omega)
        by_cases e3 : f x z = 0
        · exfalso
          have b2 := ht y z x (by omega) (by omega)
          omega
        · rw [if_neg e3]; exact b1
end

/-- How two values stand, n levels deep. -/
def cmpN : Nat → J → J → Int
  | 0, _, _ => 0
  | n + 1, a, b => match a, b with
    | .num x, .num y => sgn x y
    | .str s, .str t => cmpB s t
    | .arr l, .arr m => cmpL (cmpN n) l m
    | .obj p, .obj q => if cmpL cmpB (p.map (·.1)) (q.map (·.1)) = 0 then cmpL (cmpN n) (p.map (·.2)) (q.map (·.2)) else cmpL cmpB (p.map (·.1)) (q.map (·.1))
    | a, b => sgn a.kind b.kind

theorem kind_bool (b : Bool) : (J.bool b).kind = 1 ∨ (J.bool b).kind = 2 := by cases b <;> simp [J.kind]
theorem cmpN_apart {n : Nat} {a b : J} (h : a.kind ≠ b.kind) : cmpN (n + 1) a b = sgn a.kind b.kind := by
  cases a <;> cases b <;> first | rfl | (exact absurd rfl h)
theorem cmpN_kind {n : Nat} {a b : J} (h : cmpN (n + 1) a b ≤ 0) : a.kind ≤ b.kind := by
  by_cases hk : a.kind = b.kind
  · omega
  · rw [cmpN_apart hk, sgn_le] at h; exact h

theorem cmpN_anti : ∀ (n : Nat) (a b : J), cmpN n b a = -cmpN n a b
  | 0, _, _ => rfl
  | n + 1, a, b => by
    have ih := cmpN_anti n
    cases a with
    | num x => cases b with
      | num y => exact sgn_anti x y
      | _ => exact sgn_anti _ _
    | str s => cases b with
      | str t => exact cmpB_anti s t
      | _ => exact sgn_anti _ _
    | arr l => cases b with
      | arr m => exact cmpL_anti ih l m
      | _ => exact sgn_anti _ _
    | obj p => cases b with
      | obj q =>
        simp only [cmpN]
        have e := cmpL_anti cmpB_anti (p.map (·.1)) (q.map (·.1))
        by_cases h0 : cmpL cmpB (p.map (·.1)) (q.map (·.1)) = 0
        · rw [if_pos h0, if_pos (by omega), cmpL_anti ih]
        · rw [if_neg h0, if_neg (by omega), e]
      | _ => exact sgn_anti _ _
    | _ => cases b <;> exact sgn_anti _ _
theorem cmpN_three : ∀ (n : Nat) (a b : J), cmpN n a b = -1 ∨ cmpN n a b = 0 ∨ cmpN n a b = 1
  | 0, _, _ => .inr (.inl rfl)
  | n + 1, a, b => by
    have ih := cmpN_three n
    cases a with
    | num x => cases b with
      | num y => exact sgn_three x y
      | _ => exact sgn_three _ _
    | str s => cases b with
      | str t => exact cmpB_three s t
      | _ => exact sgn_three _ _
    | arr l => cases b with
      | arr m => exact cmpL_three ih l m
      | _ => exact sgn_three _ _
    | obj p => cases b with
      | obj q =>
        simp only [cmpN]
        split
        · exact cmpL_three ih _ _
        · exact cmpL_three cmpB_three _ _
      | _ => exact sgn_three _ _
    | _ => cases b <;> exact sgn_three _ _
theorem cmpN_trans : ∀ (n : Nat) (a b c : J), cmpN n a b ≤ 0 → cmpN n b c ≤ 0 → cmpN n a c ≤ 0
  | 0, _, _, _, _, _ => Int.le_refl 0
  | n + 1, a, b, c, h1, h2 => by
    have ih := cmpN_trans n
    have an := cmpN_anti n
    have k1 := cmpN_kind h1; have k2 := cmpN_kind h2
    by_cases hk : a.kind = c.kind
    · have e1 : a.kind = b.kind := by omega
      have e2 : b.kind = c.kind := by omega
      cases a with
      | null => cases c <;> simp [J.kind] at hk ⊢ <;> (first | (simp [cmpN, sgn]; done) | (split at hk <;> simp at hk))
      | bool x =>
        cases c with
        | bool z => rw [show cmpN (n + 1) (.bool x) (.bool z) = sgn (J.bool x).kind (J.bool z).kind from rfl, sgn_le]; omega
        | _ => have := kind_bool x; simp [J.kind] at hk this <;> (split at hk <;> simp at hk)
      | num x => cases b with
        | num y => cases c with
          | num z =>
            simp only [cmpN] at *
            rw [sgn_le] at *
            omega
          | bool z => have := kind_bool z; simp only [J.kind] at hk this; omega
          | _ => simp [J.kind] at hk
        | bool z => have := kind_bool z; simp only [J.kind] at e1 this; omega
        | _ => simp [J.kind] at e1
      | str x => cases b with
        | str y => cases c with
          | str z => exact cmpB_trans h1 h2
          | bool z => have := kind_bool z; simp only [J.kind] at hk this; omega
          | _ => simp [J.kind] at hk
        | bool z => have := kind_bool z; simp only [J.kind] at e1 this; omega
        | _ => simp [J.kind] at e1
      | arr x => cases b with
        | arr y => cases c with
          | arr z => exact cmpL_trans an ih x y z h1 h2
          | bool z => have := kind_bool z; simp only [J.kind] at hk this; omega
          | _ => simp [J.kind] at hk
        | bool z => have := kind_bool z; simp only [J.kind] at e1 this; omega
        | _ => simp [J.kind] at e1
      | obj p => cases b with
        | obj q => cases c with
          | obj r =>
            simp only [cmpN] at *
            have tB := fun x y z => cmpL_trans cmpB_anti (fun _ _ _ => cmpB_trans) (l := x) (m := y) (k := z)
            have aB := cmpL_anti cmpB_anti
            have a1 := aB (p.map (·.1)) (q.map (·.1)); have a2 := aB (q.map (·.1)) (r.map (·.1)); have a3 := aB (p.map (·.1)) (r.map (·.1))
            by_cases z1 : cmpL cmpB (p.map (·.1)) (q.map (·.1)) = 0
            · rw [if_pos z1] at h1
              by_cases z2 : cmpL cmpB (q.map (·.1)) (r.map (·.1)) = 0
              · rw [if_pos z2] at h2
                have b1 := tB (p.map (·.1)) (q.map (·.1)) (r.map (·.1)) (by omega) (by omega)
                have b2 := tB (r.map (·.1)) (q.map (·.1)) (p.map (·.1)) (by omega) (by omega)
                rw [if_pos (by omega)]
                exact cmpL_trans an ih _ _ _ h1 h2
              · rw [if_neg z2] at h2
                have b1 := tB (p.map (·.1)) (q.map (·.1)) (r.map (·.1)) (by omega) (by omega)
                have b2 : cmpL cmpB (p.map (·.1)) (r.map (·.1)) ≠ 0 := fun z3 => by
                  have := tB (r.map (·.1)) (p.map (·.1)) (q.map (·.1)) (by omega) (by omega)
                  omega
                rw [if_neg b2]
                exact b1
            · rw [if_neg z1] at h1
              have b1 := tB (p.map (·.1)) (q.map (·.1)) (r.map (·.1)) h1 (by
                by_cases z2 : cmpL cmpB (q.map (·.1)) (r.map (·.1)) = 0
                · omega
                · rw [if_neg z2] at h2; exact h2)
              have b2 : cmpL cmpB (p.map (·.1)) (r.map (·.1)) ≠ 0 := fun z3 => by
                have := tB (q.map (·.1)) (r.map (·.1)) (p.map (·.1)) (by
                  by_cases z2 : cmpL cmpB (q.map (·.1)) (r.map (·.1)) = 0
                  · omega
                  · rw [if_neg z2] at h2; exact h2) (by omega)
                omega
              rw [if_neg b2]
              exact b1
          | bool z => have := kind_bool z; simp only [J.kind] at hk this; omega
          | _ => simp [J.kind] at hk
        | bool z => have := kind_bool z; simp only [J.kind] at e1 this; omega
        | _ => simp [J.kind] at e1
    · rw [cmpN_apart hk, sgn_le]; omega

theorem cmpN_refl : ∀ (n : Nat) (a : J), cmpN n a a = 0 := fun n a => by have := cmpN_anti n a a; omega

theorem zipped : ∀ p : List (ByteArray × J), p = (p.map (·.1)).zip (p.map (·.2))
  | [] => rfl
  | x :: p => by simp only [List.map_cons, List.zip_cons_cons]; rw [← zipped p]

/-- Values of which neither stands before the other one are one. -/
theorem cmpN_zero : ∀ (n : Nat) (a b : J), SizeOf.sizeOf a ≤ n → cmpN n a b = 0 → a = b
  | 0, a, _, h, _ => by cases a <;> simp at h
  | n + 1, a, b, hs, h => by
    by_cases hk : a.kind = b.kind
    · cases a with
      | null => cases b with
        | null => rfl
        | bool z => have := kind_bool z; simp only [J.kind] at hk this; omega
        | _ => simp [J.kind] at hk
      | bool x => cases b with
        | bool y => cases x <;> cases y <;> simp [J.kind] at hk ⊢
        | _ => have := kind_bool x; rw [hk] at this; simp [J.kind] at this
      | num x => cases b with
        | num y => rw [sgn_zero.1 h]
        | bool z => have := kind_bool z; rw [← hk] at this; simp [J.kind] at this
        | _ => simp [J.kind] at hk
      | str x => cases b with
        | str y => rw [cmpB_zero.1 h]
        | bool z => have := kind_bool z; rw [← hk] at this; simp [J.kind] at this
        | _ => simp [J.kind] at hk
      | arr x => cases b with
        | arr y =>
          rw [cmpL_zero (fun a ha b _ e => cmpN_zero n a b (by have := List.sizeOf_lt_of_mem ha; simp at hs; omega) e) h]
        | bool z => have := kind_bool z; rw [← hk] at this; simp [J.kind] at this
        | _ => simp [J.kind] at hk
      | obj p => cases b with
        | obj q =>
          simp only [cmpN] at h
          by_cases z1 : cmpL cmpB (p.map (·.1)) (q.map (·.1)) = 0
          · rw [if_pos z1] at h
            have e1 := cmpL_zero (fun a _ b _ e => cmpB_zero.1 e) z1
            have e2 := cmpL_zero (fun a ha b _ e => cmpN_zero n a b (by
              obtain ⟨x, hx, rfl⟩ := List.mem_map.1 ha
              have h1 := List.sizeOf_lt_of_mem hx
              have h2 : SizeOf.sizeOf x.2 < SizeOf.sizeOf x := by cases x; simp; omega
              simp at hs; omega) e) h
            have : p = q := by
              have f1 := zipped p
              have f2 := zipped q
              rw [f1, f2, e1, e2]
            rw [this]
          · rw [if_neg z1] at h; exact absurd h z1
        | bool z => have := kind_bool z; rw [← hk] at this; simp [J.kind] at this
        | _ => simp [J.kind] at hk
    · rw [cmpN_apart hk, sgn_zero] at h; exact absurd h hk
end Go.Proofs.YtofpdcjgakmlnaaGreatDoor

namespace Go.Proofs.YtofpdcjgakmlnaaGreatDoor
open Go.RowKit

section
variable {β : Type}

/-- Two places exchanged. -/
def swp (f : Nat → β) (i j : Nat) : Nat → β := fun k => if k = i then f j else if k = j then f i else f k
/-- Places of [a, b) exchanged, two by two. -/
inductive Sw (a b : Nat) : (Nat → β) → (Nat → β) → Prop
  | refl (f : Nat → β) : Sw a b f f
  | step {f g : Nat → β} {i j : Nat} : Sw a b f g → a ≤ i → i < b → a ≤ j → j < b → Sw a b f (swp g i j)

theorem Sw.trans {a b : Nat} {f g h : Nat → β} (h1 : Sw a b f g) (h2 : Sw a b g h) : Sw a b f h := by
  induction h2 with
  | refl => exact h1
  | step _ h3 h4 h5 h6 ih => exact .step ih h3 h4 h5 h6
theorem Sw.mono {a b a' b' : Nat} {f g : Nat → β} (h : Sw a b f g) (ha : a' ≤ a) (hb : b ≤ b') : Sw a' b' f g := by
  induction h with
  | refl => exact .refl _
  | step _ h3 h4 h5 h6 ih => exact .step ih (by omega) (by omega) (by omega) (by omega)
theorem Sw.out {a b : Nat} {f g : Nat → β} (h : Sw a b f g) {k : Nat} (hk : k < a ∨ b ≤ k) : g k = f k := by
  induction h with
  | refl => rfl
  | step _ h3 h4 h5 h6 ih => rw [← ih]; unfold swp; rw [if_neg (by omega), if_neg (by omega)]
theorem Sw.from_ {a b : Nat} {f g : Nat → β} (h : Sw a b f g) : ∀ k, a ≤ k → k < b → ∃ k', a ≤ k' ∧ k' < b ∧ g k = f k' := by
  induction h with
  | refl => exact fun k h1 h2 => ⟨k, h1, h2, rfl⟩
  | step _ h3 h4 h5 h6 ih =>
    intro k h1 h2
    unfold swp
    split
    · exact ih _ h5 h6
    · split
      · exact ih _ h3 h4
      · exact ih _ h1 h2
theorem swp_perm {f : Nat → β} {i j n : Nat} (hi : i < n) (hj : j < n) : ((List.range n).map (swp f i j)).Perm ((List.range n).map f) := by
  have e : (List.range n).map (swp f i j) = ((List.range n).map (fun k => if k = i then j else if k = j then i else k)).map f := by
    rw [List.map_map]
    refine List.map_congr_left fun k _ => ?_
    show swp f i j k = f (if k = i then j else if k = j then i else k)
    unfold swp
    split
    · rfl
    · split <;> rfl
  rw [e]
  refine List.Perm.map f ?_
  have h1 : ((List.range n).map (fun k => if k = i then j else if k = j then i else k)).Nodup := by
    refine List.pairwise_map.2 (List.nodup_range.imp fun {a b} hab h => hab ?_)
    revert h
    split <;> split <;> (try split) <;> (try split) <;> omega
  refine (List.perm_ext_iff_of_nodup h1 List.nodup_range).2 fun k => ?_
  rw [List.mem_map, List.mem_range]
  constructor
  · rintro ⟨a, ha, rfl⟩
    rw [List.mem_range] at ha
    split
    · exact hj
    · split <;> omega
  · intro hk
    refine ⟨if k = i then j else if k = j then i else k, ?_, ?_⟩
    · rw [List.mem_range]; split
      · exact hj
      · split <;> omega
    · split
      · rename_i h; subst h; split
        · rename_i h; exact h
        · rw [if_pos rfl]
      · split
        · rename_i h1 h2; rw [if_pos rfl]; exact h2.symm
        · rfl
theorem Sw.perm {a b n : Nat} {f g : Nat → β} (h : Sw a b f g) (hb : b ≤ n) : ((List.range n).map g).Perm ((List.range n).map f) := by
  induction h with
  | refl => exact List.Perm.refl _
  | step _ h3 h4 h5 h6 ih => exact (swp_perm (by omega) (by omega)).trans ih

/-- Two ranges of k places exchanged. -/
def swr (f : Nat → β) (a b k : Nat) : Nat → β := fun x => if a ≤ x ∧ x < a + k then f (b + (x - a)) else if b ≤ x ∧ x < b + k then f (a + (x - b)) else f x
theorem swr_zero (f : Nat → β) (a b : Nat) : swr f a b 0 = f := by
  funext x; unfold swr; rw [if_neg (by omega), if_neg (by omega)]
theorem swr_succ (f : Nat → β) {a b k : Nat} (h : a + k < b) : swp (swr f a b k) (a + k) (b + k) = swr f a b (k + 1) := by
  funext x
  unfold swp swr
  by_cases h1 : x = a + k
  · subst h1
    rw [if_pos rfl, if_neg (by omega), if_neg (by omega), if_pos (by omega)]
    congr 1; omega
  · rw [if_neg h1]
    by_cases h2 : x = b + k
    · subst h2
      rw [if_pos rfl, if_neg (by omega), if_neg (by omega), if_neg (by omega), if_pos (by omega)]
      congr 1; omega
    · rw [if_neg h2]
      by_cases h3 : a ≤ x ∧ x < a + k
      · rw [if_pos h3, if_pos (by omega)]
      · rw [if_neg h3]
        by_cases h4 : b ≤ x ∧ x < b + k
        · rw [if_pos h4, if_neg (by omega), if_pos (by omega)]
        · rw [if_neg h4, if_neg (by omega), if_neg (by omega)]

/-- [lo, m) and [m, hi) in the other order. -/
def rot (f : Nat → β) (lo m hi : Nat) : Nat → β := fun x => if lo ≤ x ∧ x < lo + (hi - m) then f (m + (x - lo)) else if lo + (hi - m) ≤ x ∧ x < hi then f (x - (hi - m)) else f x
theorem rot_left (f : Nat → β) {m i j : Nat} (h : j < i) (hm : i ≤ m) : rot (swr f (m - i) m j) (m - (i - j)) m (m + j) = rot f (m - i) m (m + j) := by
  funext x
  unfold rot swr
  by_cases h1 : m - i ≤ x ∧ x < m - i + (m + j - m)
  · rw [if_pos h1, if_neg (by omega), if_neg (by omega), if_pos (by omega)]
  · rw [if_neg h1]
    by_cases h2 : m - i + (m + j - m) ≤ x ∧ x < m + j
    · rw [if_pos h2]
      by_cases h3 : x < m - (i - j) + j
      · rw [if_pos (by omega), if_neg (by omega), if_pos (by omega)]; congr 1; omega
      · rw [if_neg (by omega), if_pos (by omega), if_neg (by omega), if_neg (by omega)]
    · rw [if_neg h2, if_neg (by omega), if_neg (by omega), if_neg (by omega), if_neg (by omega)]
theorem rot_right (f : Nat → β) {m i j : Nat} (h : i < j) (hm : i ≤ m) : rot (swr f (m - i) (m + j - i) i) (m - i) m (m + (j - i)) = rot f (m - i) m (m + j) := by
  funext x
  unfold rot swr
  by_cases h1 : m - i ≤ x ∧ x < m - i + (m + j - m)
  · rw [if_pos h1]
    by_cases h3 : x < m - i + (j - i)
    · rw [if_pos (by omega)]
      by_cases h4 : m - i ≤ m + (x - (m - i)) ∧ m + (x - (m - i)) < m - i + i
      · omega
      · rw [if_neg h4, if_neg (by omega)]
    · by_cases h5 : x < m + (j - i)
      · rw [if_neg (by omega), if_pos (by omega), if_pos (by omega)]; congr 1; omega
      · rw [if_neg (by omega), if_neg (by omega), if_neg (by omega), if_pos (by omega)]
        exfalso; omega
  · rw [if_neg h1]
    by_cases h2 : m - i + (m + j - m) ≤ x ∧ x < m + j
    · rw [if_pos h2]
      by_cases h5 : x < m + (j - i)
      · rw [if_neg (by omega), if_pos (by omega), if_pos (by omega)]; exfalso; omega
      · rw [if_neg (by omega), if_neg (by omega), if_neg (by omega), if_pos (by omega)]; congr 1; omega
    · rw [if_neg h2, if_neg (by omega), if_neg (by omega), if_neg (by omega), if_neg (by omega)]
theorem rot_same (f : Nat → β) {m i : Nat} (hm : i ≤ m) : swr f (m - i) m i = rot f (m - i) m (m + i) := by
  funext x
  unfold rot swr
  by_cases h1 : m - i ≤ x ∧ x < m - i + i
  · rw [if_pos h1, if_pos (show m - i ≤ x ∧ x < m - i + (m + i - m) by omega)]
  · rw [if_neg h1, if_neg (show ¬ (m - i ≤ x ∧ x < m - i + (m + i - m)) by omega)]
    by_cases h2 : m ≤ x ∧ x < m + i
    · rw [if_pos h2, if_pos (show m - i + (m + i - m) ≤ x ∧ x < m + i by omega)]; congr 1; omega
    · rw [if_neg h2, if_neg (show ¬ (m - i + (m + i - m) ≤ x ∧ x < m + i) by omega)]

variable {le : β → β → Prop}
/-- None before one that it should follow. -/
def SortedOn (le : β → β → Prop) (a b : Nat) (f : Nat → β) : Prop := ∀ i j, a ≤ i → i < j → j < b → le (f i) (f j)
theorem SortedOn.sub {a b a' b' : Nat} {f : Nat → β} (h : SortedOn le a b f) (ha : a ≤ a') (hb : b' ≤ b) : SortedOn le a' b' f := fun i j h1 h2 h3 => h i j (by omega) h2 (by omega)
theorem SortedOn.same {a b : Nat} {f g : Nat → β} (h : SortedOn le a b f) (he : ∀ k, a ≤ k → k < b → g k = f k) : SortedOn le a b g := fun i j h1 h2 h3 => by
  rw [he i h1 (by omega), he j (by omega) h3]; exact h i j h1 h2 h3
theorem SortedOn.short (f : Nat → β) {a b : Nat} (h : b ≤ a + 1) : SortedOn le a b f := fun i j h1 h2 h3 => by omega
theorem SortedOn.le_ (hr : ∀ x, le x x) {a b i j : Nat} {f : Nat → β} (h : SortedOn le a b f) (h1 : a ≤ i) (h2 : i ≤ j) (h3 : j < b) : le (f i) (f j) := by
  rcases Nat.lt_or_ge i j with h4 | h4
  · exact h i j h1 h4 h3
  · obtain rfl : i = j := by omega
    exact hr _
/-- Two sorted ranges, all of the one before all of the other. -/
theorem SortedOn.join {a m b : Nat} {f : Nat → β} (h1 : SortedOn le a m f) (h2 : SortedOn le m b f) (h : ∀ i j, a ≤ i → i < m → m ≤ j → j < b → le (f i) (f j)) : SortedOn le a b f := fun i j g1 g2 g3 => by
  by_cases hi : i < m
  · by_cases hj : j < m
    · exact h1 i j g1 g2 hj
    · exact h i j g1 hi (by omega) g3
  · exact h2 i j (by omega) g2 g3

/-- One place moved up to behind i - 1. -/
def upTo (f : Nat → β) (a i : Nat) : Nat → β := fun x => if a ≤ x ∧ x < i then f (x + 1) else if x = i then f a else f x
theorem upTo_zero (f : Nat → β) (a : Nat) : upTo f a a = f := by
  funext x; unfold upTo; rw [if_neg (by omega)]; split
  · rename_i h; rw [h]
  · rfl
theorem upTo_succ (f : Nat → β) {a k : Nat} (h : a ≤ k) : swp (upTo f a k) k (k + 1) = upTo f a (k + 1) := by
  funext x
  unfold swp upTo
  by_cases h1 : x = k
  · subst h1; rw [if_pos rfl, if_neg (by omega), if_neg (by omega), if_pos (by omega)]
  · rw [if_neg h1]
    by_cases h2 : x = k + 1
    · subst h2; rw [if_pos rfl, if_neg (by omega), if_pos rfl, if_neg (by omega), if_pos rfl]
    · rw [if_neg h2]
      by_cases h3 : a ≤ x ∧ x < k
      · rw [if_pos h3, if_pos (by omega)]
      · rw [if_neg h3, if_neg (by omega), if_neg (by omega), if_neg (by omega)]
/-- One place moved down to i. -/
def downTo (f : Nat → β) (m i : Nat) : Nat → β := fun x => if i < x ∧ x ≤ m then f (x - 1) else if x = i then f m else f x
theorem downTo_zero (f : Nat → β) (m : Nat) : downTo f m m = f := by
  funext x; unfold downTo; rw [if_neg (by omega)]; split
  · rename_i h; rw [h]
  · rfl
theorem downTo_succ (f : Nat → β) {m k : Nat} (h : k < m) : swp (downTo f m (k + 1)) (k + 1) k = downTo f m k := by
  funext x
  unfold swp downTo
  by_cases h1 : x = k + 1
  · subst h1; rw [if_pos rfl, if_neg (by omega), if_neg (by omega), if_pos (by omega)]; rfl
  · rw [if_neg h1]
    by_cases h2 : x = k
    · subst h2; rw [if_pos rfl, if_neg (by omega), if_pos rfl, if_neg (by omega), if_pos rfl]
    · rw [if_neg h2]
      by_cases h3 : k + 1 < x ∧ x ≤ m
      · rw [if_pos h3, if_pos (by omega)]
      · rw [if_neg h3, if_neg (by omega), if_neg (by omega), if_neg (by omega)]

/-- data[a] before a sorted range: moved behind all that must stand before it. -/
theorem sorted_up {a m b i : Nat} {f : Nat → β} (hm : m = a + 1) (hi : m ≤ i) (hib : i ≤ b) (hs : SortedOn le m b f) (h1 : ∀ k, m ≤ k → k < i → le (f k) (f a)) (h2 : ∀ k, i ≤ k → k < b → le (f a) (f k)) : SortedOn le a b (upTo f a (i - 1)) := by
  intro x y g1 g2 g3
  unfold upTo
  by_cases c1 : x < i - 1
  · rw [if_pos ⟨g1, c1⟩]
    by_cases c2 : y < i - 1
    · rw [if_pos ⟨by omega, c2⟩]; exact hs _ _ (by omega) (by omega) (by omega)
    · rw [if_neg (by omega)]
      split
      · exact h1 _ (by omega) (by omega)
      · exact hs _ _ (by omega) (by omega) g3
  · rw [if_neg (by omega), if_neg (by omega : ¬ (a ≤ y ∧ y < i - 1)), if_neg (by omega : ¬ y = i - 1)]
    split
    · exact h2 _ (by omega) g3
    · exact hs _ _ (by omega) g2 g3
/-- data[m] behind a sorted range: moved before all that must stand behind it. -/
theorem sorted_down {a m i : Nat} {f : Nat → β} (hi : a ≤ i) (him : i ≤ m) (hs : SortedOn le a m f) (h1 : ∀ k, a ≤ k → k < i → le (f k) (f m)) (h2 : ∀ k, i ≤ k → k < m → le (f m) (f k)) : SortedOn le a (m + 1) (downTo f m i) := by
  intro x y g1 g2 g3
  unfold downTo
  by_cases c1 : i < x
  · rw [if_pos ⟨c1, by omega⟩, if_pos ⟨by omega, by omega⟩]; exact hs _ _ (by omega) (by omega) (by omega)
  · rw [if_neg (by omega)]
    by_cases c2 : x = i
    · subst c2
      rw [if_pos rfl, if_pos ⟨by omega, by omega⟩]
      exact h2 _ (by omega) (by omega)
    · rw [if_neg c2]
      by_cases c3 : i < y
      · rw [if_pos ⟨c3, by omega⟩]; exact hs _ _ g1 (by omega) (by omega)
      · rw [if_neg (by omega)]
        split
        · exact h1 _ g1 (by omega)
        · exact hs _ _ g1 g2 (by omega)

/-- What the search of a merge has found: the pairs before start stand right, those from it on do not. -/
structure Cut (le : β → β → Prop) (f : Nat → β) (a m b mid start : Nat) : Prop where
  lo : a ≤ start
  lo2 : mid + m - b ≤ start
  hi : start ≤ m
  hi2 : start ≤ mid
  left : ∀ c, a ≤ c → mid + m - b ≤ c → c < start → le (f c) (f (mid + m - 1 - c))
  right : ∀ c, start ≤ c → c < m → c < mid → le (f (mid + m - 1 - c)) (f c)

/-- Behind the rotation: both halves in two sorted ranges each, all of the left half before all of the right one. -/
theorem cut_rot (hr : ∀ x, le x x) (ht : ∀ x y z, le x y → le y z → le x z) {f : Nat → β} {a m b mid start : Nat} (ham : a < m) (hmid : mid = (a + b) / 2) (h1 : SortedOn le a m f) (h2 : SortedOn le m b f) (C : Cut le f a m b mid start) :
    SortedOn le a start (rot f start m (mid + m - start)) ∧ SortedOn le start mid (rot f start m (mid + m - start)) ∧ SortedOn le mid (mid + m - start) (rot f start m (mid + m - start)) ∧ SortedOn le (mid + m - start) b (rot f start m (mid + m - start)) ∧
      ∀ i j, a ≤ i → i < mid → mid ≤ j → j < b → le (rot f start m (mid + m - start) i) (rot f start m (mid + m - start) j) := by
  obtain ⟨c1, c2, c3, c4, c5, c6⟩ := C
  have hend : mid + m - start ≤ b := by omega
  have hme : m ≤ mid + m - start := by omega
  have e : mid + m - start - m = mid - start := by omega
  have p1 : ∀ x, x < start → rot f start m (mid + m - start) x = f x := fun x hx => by unfold rot; rw [if_neg (by omega), if_neg (by omega)]
  have p2 : ∀ x, start ≤ x → x < mid → rot f start m (mid + m - start) x = f (m + (x - start)) := fun x hx hy => by unfold rot; rw [if_pos (by omega)]
  have p3 : ∀ x, mid ≤ x → x < mid + m - start → rot f start m (mid + m - start) x = f (x - (mid - start)) := fun x hx hy => by unfold rot; rw [if_neg (by omega), if_pos (by omega), e]
  have p4 : ∀ x, mid + m - start ≤ x → rot f start m (mid + m - start) x = f x := fun x hx => by unfold rot; rw [if_neg (by omega), if_neg (by omega)]
  refine ⟨?_, ?_, ?_, ?_, ?_⟩
  · exact (h1.sub (Nat.le_refl _) c3).same (fun k _ h => p1 k h)
  · intro i j g1 g2 g3
    rw [p2 i g1 (by omega), p2 j (by omega) g3]
    exact h2 _ _ (by omega) (by omega) (by omega)
  · intro i j g1 g2 g3
    rw [p3 i g1 (by omega), p3 j (by omega) g3]
    exact h1 _ _ (by omega) (by omega) (by omega)
  · exact (h2.sub hme (Nat.le_refl _)).same (fun k h _ => p4 k h)
  · intro i j g1 g2 g3 g4
    have q1 : ∀ x, x < start → a ≤ x → ∀ y, start ≤ y → y < m → le (f x) (f y) := fun x hx hx' y hy hy' => h1.le_ hr hx' (by omega) hy'
    have q2 : ∀ x, x < start → a ≤ x → ∀ y, mid + m - start ≤ y → y < b → le (f x) (f y) := fun x hx hx' y hy hy' => by
      have s0 : a ≤ start - 1 := by omega
      have s1 : mid + m - b ≤ start - 1 := by omega
      have t1 := h1.le_ hr hx' (show x ≤ start - 1 by omega) (by omega)
      have t2 := c5 (start - 1) s0 s1 (by omega)
      have t3 := h2.le_ hr (show m ≤ mid + m - 1 - (start - 1) by omega) (show mid + m - 1 - (start - 1) ≤ y by omega) hy'
      exact ht _ _ _ t1 (ht _ _ _ t2 t3)
    have q3 : ∀ x, m ≤ x → x < mid + m - start → ∀ y, start ≤ y → y < m → le (f x) (f y) := fun x hx hx' y hy hy' => by
      have t1 := h2.le_ hr hx (show x ≤ mid + m - 1 - start by omega) (by omega)
      have t2 := c6 start (Nat.le_refl _) (by omega) (by omega)
      have t3 := h1.le_ hr c1 hy hy'
      exact ht _ _ _ t1 (ht _ _ _ t2 t3)
    have q4 : ∀ x, m ≤ x → x < mid + m - start → ∀ y, mid + m - start ≤ y → y < b → le (f x) (f y) := fun x hx hx' y hy hy' => h2.le_ hr hx (by omega) hy'
    by_cases k1 : i < start
    · rw [p1 i k1]
      by_cases k2 : j < mid + m - start
      · rw [p3 j g3 k2]; exact q1 i k1 g1 _ (by omega) (by omega)
      · rw [p4 j (by omega)]; exact q2 i k1 g1 _ (by omega) g4
    · rw [p2 i (by omega) g2]
      by_cases k2 : j < mid + m - start
      · rw [p3 j g3 k2]; exact q3 _ (by omega) (by omega) _ (by omega) (by omega)
      · rw [p4 j (by omega)]; exact q4 _ (by omega) (by omega) _ (by omega) g4

/-- What holds of all pairs over two ranges still holds when each range has been exchanged within itself. -/
theorem pairs_sw {a mid b : Nat} {f g : Nat → β} (h : ∀ i j, a ≤ i → i < mid → mid ≤ j → j < b → le (f i) (f j)) (h1 : ∀ k, a ≤ k → k < mid → ∃ k', a ≤ k' ∧ k' < mid ∧ g k = f k') (h2 : ∀ k, mid ≤ k → k < b → ∃ k', mid ≤ k' ∧ k' < b ∧ g k = f k') :
    ∀ i j, a ≤ i → i < mid → mid ≤ j → j < b → le (g i) (g j) := fun i j g1 g2 g3 g4 => by
  obtain ⟨i', a1, a2, e1⟩ := h1 i g1 g2
  obtain ⟨j', b1, b2, e2⟩ := h2 j g3 g4
  rw [e1, e2]
  exact h _ _ a1 a2 b1 b2
end
end Go.Proofs.YtofpdcjgakmlnaaGreatDoor

namespace Go.Proofs.YtofpdcjgakmlnaaGreatDoor
open Go.RowKit

theorem ZzUnique_hands {w : World} {S : Nat → Prop} {o : Out} {v : Value} (hs : o ≠ .silent) (h : Calls Tryz.prog 20 #[v] w (GIn S w o)) : Calls Tryz.prog 13 #[v] w (GIn S w o) := by
  have H := Lib.hid h
  clear h
  go_enter Tryz.func13, Tryz.ntmps13
  go_wp2_with fail
  refine H.out.mono ?_
  intro e w' h
  clear H
  cases o with
  | silent => exact absurd rfl hs
  | raises =>
    obtain ⟨p, rfl, hb⟩ := h
    go_wp2_with fail
    go_ret
    exact ⟨p, rfl, hb⟩
  | value j1 =>
    obtain ⟨v1, rfl, hG, hb⟩ := h
    go_wp2_with fail
    go_ret
    exact ⟨v1, rfl, hG, hb⟩

set_option maxRecDepth 100000 in
theorem IUnique_any (j : J) (o : Out) (a : VC) (w : World) (S : Nat → Prop) (hj : JOK j) (ha : VR w S j a) (hS : ∀ b, S b → b < w.heap.size) (hs : o ≠ .silent) (hok : ∀ j', o = .value j' → JW j')
    (hZ : ∀ (v : Value) (w1 : World) (S1 : Nat → Prop), JR w1 S1 j v → (∀ b, S1 b → b < w1.heap.size) → Calls Tryz.prog 13 #[v] w1 (GIn S1 w1 o)) :
    Calls Tryz.prog 7 #[a.val] w (DoorOut w o) := by
  have HA := Lib.hid ha; have HS := Lib.hid hS; have HN := Lib.hid hs; have HJ := Lib.hid hj; have HO := Lib.hid hok; have HZ := Lib.hid hZ
  clear ha hS hs hj hok hZ
  obtain ⟨k0, h0, s0, la, ll, lc, ka, kl, kc, va, vl, vc⟩ := a
  have R0 := Lib.hid (resbox_alloc (w.alloc (.cells (VC.arr ⟨k0, h0, s0, la, ll, lc, ka, kl, kc, va, vl, vc⟩) 27)) VC.nil 0)
  have W3 : Hid (Below w.heap.size w ((w.alloc (.cells (VC.arr ⟨k0, h0, s0, la, ll, lc, ka, kl, kc, va, vl, vc⟩) 27)).alloc (.cells #[.int .i64 0, .int .i64 0, .string ByteArray.empty, .slice none 0 0, .slice none 0 0, .slice none 0 0, .int .i64 0] 30))) :=
    Lib.hid (((Below.refl _ _).alloc (Nat.le_refl _) _).alloc (by simp) _)
  have T1 := Lib.hid fun hn => toGo_any (SizeOf.sizeOf j) j _ _ S (Nat.le_refl _) HJ.out (HA.out.go (fun b hb => W3.out.block b (HS.out b hb)) (fun _ h => h)) hn
  unfold VC.val VC.arr at *
  unfold VC.nil at R0
  go_enter Tryz.func7, Tryz.ntmps7
  go_wp2_with fail
  refine (T1.out ?_).mono ?_
  · intro b hb; exact Nat.lt_of_lt_of_le (HS.out b hb) W3.out.size
  rintro e w1 ⟨v1, rfl, hG1, hb1⟩
  have HB1 := Lib.hid hb1
  have W4 := Lib.hid (W3.out.trans (hb1.mono W3.out.size))
  have Z := Lib.hid (HZ.out v1 w1 _ (GR.jr _ (Nat.le_refl _) hG1) (fun b hb => hb.2))
  clear hb1 hG1
  go_wp2_with fail
  refine Z.out.mono ?_
  intro e w3 hz
  obtain ⟨v3, rfl, hb3, hc⟩ := result_in HO.out HN.out hz (fun b hb => hb.2)
  have W6 := Lib.hid (W4.out.trans (hb3.mono W4.out.size))
  have HB3 := Lib.hid hb3
  have HC2 := Lib.hid hc
  clear hz hb3 hc
  go_wp2_with fail
  refine HC2.out.mono ?_
  rintro e w4 ⟨c, rfl, hV, hb4⟩
  have W7 := Lib.hid (W6.out.trans (hb4.mono W6.out.size))
  have r0 := R0.out.below ((HB1.out.trans (HB3.out.mono HB1.out.size)).trans (hb4.mono (Nat.le_trans HB1.out.size HB3.out.size))) (by simp)
  simp only [World.size_alloc] at r0
  have q0 := r0.c0; have q1 := r0.c1; have q2 := r0.c2; have q3 := r0.c3; have q4 := r0.c4; have q5 := r0.c5; have q6 := r0.c6; have qf := r0.fr; have lt := r0.lt
  have HV := Lib.hid hV
  obtain ⟨k9, h9, s9, la9, ll9, lc9, ka9, kl9, kc9, va9, vl9, vc9⟩ := c
  unfold resVal
  clear r0 hV hb4
  go_wp2_with fail
  refine bodyPost_ret (v := .agg #[.int .i64 k9, .int .i64 h9, .string s9, .slice la9 ll9 lc9, .slice ka9 kl9 kc9, .slice va9 vl9 vc9, .int .i64 o.how]) (by simp [results, Tryz.results7, go_sem, q0, q1, q2, q3, q4, q5, q6]) rfl ?_
  have hsz : w.heap.size + 2 ≤ w3.heap.size := Nat.le_trans HB1.out.size HB3.out.size |> Nat.le_trans (by simp)
  exact door_out (N := w.heap.size + 1) HN.out W7.out (by omega) (by omega) HV.out

end Go.Proofs.YtofpdcjgakmlnaaGreatDoor

namespace Go.Proofs.YtofpdcjgakmlnaaGreatDoor
open Go.RowKit

theorem ZzOpSub_hands {w : World} {S : Nat → Prop} {o : Out} {v x : Value} (hs : o ≠ .silent) (h : Calls Tryz.prog 19 #[.nilIface, v, x] w (GIn S w o)) : Calls Tryz.prog 12 #[v, x] w (GIn S w o) := by
  have H := Lib.hid h
  clear h
  go_enter Tryz.func12, Tryz.ntmps12
  go_wp2_with fail
  refine H.out.mono ?_
  intro e w' h
  clear H
  cases o with
  | silent => exact absurd rfl hs
  | raises =>
    obtain ⟨p, rfl, hb⟩ := h
    go_wp2_with fail
    go_ret
    exact ⟨p, rfl, hb⟩
  | value j1 =>
    obtain ⟨v1, rfl, hG, hb⟩ := h
    go_wp2_with fail
    go_ret
    exact ⟨v1, rfl, hG, hb⟩

set_option maxRecDepth 100000 in
theorem IOpSub_any (j k : J) (o : Out) (a c : VC) (w : World) (S : Nat → Prop) (hj : JOK j) (hk : JOK k) (ha : VR w S j a) (hc : VR w S k c) (hS : ∀ b, S b → b < w.heap.size) (hs : o ≠ .silent) (hok : ∀ j', o = .value j' → JW j')
    (hZ : ∀ (v x : Value) (w1 : World) (S1 : Nat → Prop), JR w1 S1 j v → JR w1 S1 k x → (∀ b, S1 b → b < w1.heap.size) → Calls Tryz.prog 12 #[v, x] w1 (GIn S1 w1 o)) :
    Calls Tryz.prog 6 #[a.val, c.val] w (DoorOut w o) := by
  have B2 := Lib.hid (box_alloc (w.alloc (.cells a.arr 27)) c)
  have HA := Lib.hid ha; have HC := Lib.hid hc; have HS := Lib.hid hS; have HN := Lib.hid hs; have HJ := Lib.hid hj; have HK := Lib.hid hk; have HO := Lib.hid hok; have HZ := Lib.hid hZ
  clear ha hc hS hs hj hk hok hZ
  obtain ⟨k0, h0, s0, la, ll, lc, ka, kl, kc, va, vl, vc⟩ := a
  obtain ⟨k0', h0', s0', la', ll', lc', ka', kl', kc', va', vl', vc'⟩ := c
  have R0 := Lib.hid (resbox_alloc ((w.alloc (.cells (VC.arr ⟨k0, h0, s0, la, ll, lc, ka, kl, kc, va, vl, vc⟩) 27)).alloc (.cells (VC.arr ⟨k0', h0', s0', la', ll', lc', ka', kl', kc', va', vl', vc'⟩) 27)) VC.nil 0)
  have W3 : Hid (Below w.heap.size w (((w.alloc (.cells (VC.arr ⟨k0, h0, s0, la, ll, lc, ka, kl, kc, va, vl, vc⟩) 27)).alloc (.cells (VC.arr ⟨k0', h0', s0', la', ll', lc', ka', kl', kc', va', vl', vc'⟩) 27)).alloc (.cells #[.int .i64 0, .int .i64 0, .string ByteArray.empty, .slice none 0 0, .slice none 0 0, .slice none 0 0, .int .i64 0] 30))) :=
    Lib.hid ((((Below.refl _ _).alloc (Nat.le_refl _) _).alloc (by simp) _).alloc (by simp; omega) _)
  have T1 := Lib.hid fun hn => toGo_any (SizeOf.sizeOf j) j _ _ S (Nat.le_refl _) HJ.out (HA.out.go (fun b hb => W3.out.block b (HS.out b hb)) (fun _ h => h)) hn
  unfold VC.val VC.arr at *
  unfold VC.nil at R0
  go_enter Tryz.func6, Tryz.ntmps6
  go_wp2_with fail
  refine (T1.out ?_).mono ?_
  · intro b hb; exact Nat.lt_of_lt_of_le (HS.out b hb) W3.out.size
  rintro e w1 ⟨v1, rfl, hG1, hb1⟩
  have b2 := B2.out.below (((Below.refl (w.heap.size + 2) _).alloc (by simp) _).trans (hb1.mono (by simp))) (by simp)
  simp only [World.size_alloc] at b2
  have q0 := b2.c0; have q1 := b2.c1; have q2 := b2.c2; have q3 := b2.c3; have q4 := b2.c4; have q5 := b2.c5
  have HB1 := Lib.hid hb1; have HG1 := Lib.hid hG1
  have hb3 := W3.out.trans (hb1.mono W3.out.size)
  have W4 := Lib.hid hb3
  have T2 := Lib.hid fun hn => toGo_any (SizeOf.sizeOf k) k _ _ S (Nat.le_refl _) HK.out (HC.out.go (fun b hb => W4.out.block b (HS.out b hb)) (fun _ h => h)) hn
  unfold VC.val VC.arr at T2
  clear hb1 hG1 hb3 b2
  go_wp2_with fail
  refine (T2.out ?_).mono ?_
  · intro b hb; exact Nat.lt_of_lt_of_le (HS.out b hb) W4.out.size
  rintro e w2 ⟨v2, rfl, hG2, hb2⟩
  have HB2 := Lib.hid hb2
  have Z := Lib.hid (HZ.out v1 v2 w2 (· < w2.heap.size) (GR.jr _ (Nat.le_refl _) (HG1.out.go (fun b hb => hb2.block b hb.2) (fun b hb => Nat.lt_of_lt_of_le hb.2 hb2.size))) (GR.jr _ (Nat.le_refl _) (hG2.mono (fun b hb => hb.2))) (fun b hb => hb))
  have W5 := Lib.hid (W4.out.trans (hb2.mono W4.out.size))
  clear hb2 hG2
  go_wp2_with fail
  refine Z.out.mono ?_
  intro e w3 hz
  obtain ⟨v3, rfl, hb3, hc⟩ := result_in HO.out HN.out hz (fun b hb => hb)
  have W6 := Lib.hid (W5.out.trans (hb3.mono W5.out.size))
  have HB3 := Lib.hid hb3
  have HC2 := Lib.hid hc
  clear hz hb3 hc
  go_wp2_with fail
  refine HC2.out.mono ?_
  rintro e w4 ⟨c, rfl, hV, hb4⟩
  have W7 := Lib.hid (W6.out.trans (hb4.mono W6.out.size))
  have r0 := R0.out.below (((HB1.out.trans (HB2.out.mono HB1.out.size)).trans (HB3.out.mono (Nat.le_trans HB1.out.size HB2.out.size))).trans (hb4.mono (Nat.le_trans (Nat.le_trans HB1.out.size HB2.out.size) HB3.out.size))) (by simp)
  simp only [World.size_alloc] at r0
  have q0 := r0.c0; have q1 := r0.c1; have q2 := r0.c2; have q3 := r0.c3; have q4 := r0.c4; have q5 := r0.c5; have q6 := r0.c6; have qf := r0.fr; have lt := r0.lt
  have HV := Lib.hid hV
  obtain ⟨k9, h9, s9, la9, ll9, lc9, ka9, kl9, kc9, va9, vl9, vc9⟩ := c
  unfold resVal
  clear r0 hV hb4
  go_wp2_with fail
  refine bodyPost_ret (v := .agg #[.int .i64 k9, .int .i64 h9, .string s9, .slice la9 ll9 lc9, .slice ka9 kl9 kc9, .slice va9 vl9 vc9, .int .i64 o.how]) (by simp [results, Tryz.results6, go_sem, q0, q1, q2, q3, q4, q5, q6]) rfl ?_
  have hsz : w.heap.size + 3 ≤ w3.heap.size := Nat.le_trans (Nat.le_trans HB1.out.size HB2.out.size) HB3.out.size |> Nat.le_trans (by simp)
  exact door_out (N := w.heap.size + 1 + 1) HN.out W7.out (by omega) (by omega) HV.out

end Go.Proofs.YtofpdcjgakmlnaaGreatDoor
