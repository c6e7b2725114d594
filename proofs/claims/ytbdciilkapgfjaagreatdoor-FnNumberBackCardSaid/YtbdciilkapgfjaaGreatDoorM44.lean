/- impl.fromGo and impl.result of every right JSON value, as the package has it. A part of the proof. A part of the proof. -/
import Derived.Test.YtbdciilkapgfjaaGreatDoorZHalf
import Derived.Test.YtbdciilkapgfjaaGreatDoorM43
import Derived.Test.YtbdciilkapgfjaaGreatDoorTypes
import Derived.Test.YtbdciilkapgfjaaGreatDoorM9
namespace Go.Proofs.YtbdciilkapgfjaaGreatDoor
open Go.RowKit

/-- A right JSON value, of whatever size is met. -/
def JW (j : J) : Prop :=
  (-18014398509481984 ≤ j.half ∧ j.half ≤ 18014398509481984 ∧ (j.half % 2 = 0 ∨ (-9007199254740992 < j.half ∧ j.half < 9007199254740992))) ∧
    j.list.length ≤ 1000000 ∧ j.ents.length ≤ 1000000 ∧ (∀ i (_ : i < j.list.length), JW j.list[i]) ∧ (∀ i (_ : i < j.ents.length), j.ents[i].1.size ≤ 1000000) ∧
    (∀ i (_ : i + 1 < j.ents.length), Op.bytesLess j.ents[i].1.toList j.ents[i + 1].1.toList = true) ∧ ∀ i (_ : i < j.ents.length), JW j.ents[i].2
termination_by SizeOf.sizeOf j
decreasing_by
  · exact sizeOf_list j ‹_›
  · exact sizeOf_ents j ‹_›

theorem JOK.jw : ∀ (n : Nat) {j : J}, SizeOf.sizeOf j ≤ n → JOK j → JW j
  | 0, j, hn, _ => by cases j <;> simp at hn
  | n + 1, j, hn, h => by
    rw [JOK] at h
    rw [JW]
    obtain ⟨h1, _, h3, h4, h5, h6, h7, h8⟩ := h
    exact ⟨h1, by omega, by omega, fun i hi => JOK.jw n (by have := sizeOf_list j hi; omega) (h5 i hi), fun i hi => by have := h6 i hi; omega, h7, fun i hi => JOK.jw n (by have := sizeOf_ents j hi; omega) (h8 i hi)⟩

theorem VR.str (w : World) (S : Nat → Prop) (s : ByteArray) : VR w S (.str s) {VC.nil with k := 4, s := s} := by
  rw [VR]
  refine ⟨⟨rfl, rfl, rfl, rfl, rfl, rfl, Nat.le_refl _, Nat.le_refl _, Nat.le_refl _, fun _ => rfl, fun _ => rfl, fun _ => rfl⟩, fun i hi => ?_, fun i hi => ?_, fun i hi => ?_⟩
  · simp [J.list] at hi
  · simp [J.ents] at hi
  · simp [J.ents] at hi
theorem VR.null (w : World) (S : Nat → Prop) : VR w S .null VC.nil := by
  rw [VR]
  refine ⟨⟨rfl, rfl, rfl, rfl, rfl, rfl, Nat.le_refl _, Nat.le_refl _, Nat.le_refl _, fun _ => rfl, fun _ => rfl, fun _ => rfl⟩, fun i hi => ?_, fun i hi => ?_, fun i hi => ?_⟩
  · simp [J.list] at hi
  · simp [J.ents] at hi
  · simp [J.ents] at hi

set_option maxRecDepth 100000 in
set_option maxHeartbeats 2000000 in
theorem fromGo_any (n : Nat) : ∀ (j : J) (v : Value) (w : World) (S : Nat → Prop), SizeOf.sizeOf j ≤ n → JW j → JR w S j v → (∀ b, S b → b < w.heap.size) → Calls Tryz.prog 15 #[v] w (FromGoPost w j) := by
  induction n with
  | zero => intro j v w S hn; cases j <;> simp at hn
  | succ n ih =>
    intro j v w S hn hok hV hS
    have hb0 : Below w.heap.size w (w.alloc (.cells VC.nil.arr 26)) := (Below.refl _ _).alloc (Nat.le_refl _) _
    have E0 := Lib.hid (box_alloc w VC.nil)
    have hsz0 : (w.alloc (.cells VC.nil.arr 26)).heap.size = w.heap.size + 1 := by simp
    cases j with
    | null =>
      obtain rfl := hV.head
      clear ih hV hok hn hS hb0 hsz0 E0
      go_enter Tryz.func15, Tryz.ntmps15
      go_wp2_with fail
      exact bodyPost_ret (v := .tuple #[VC.nil.val, .bool true]) (by simp [results, Tryz.results15, go_sem]; rfl) rfl ⟨_, rfl, VR.null _ _, (Below.refl _ _).alloc (Nat.le_refl _) _⟩
    | bool b =>
      obtain rfl := hV.head
      clear ih hV hok hn hS hb0 hsz0 E0
      cases b
      all_goals
        refine (fromGo_bool _ w).mono ?_
        rintro e w' ⟨rfl, hb⟩
        exact ⟨_, rfl, VR.bool _ _ _, hb⟩
    | num x =>
      have hh := hV.head
      simp only [JHead] at hh
      rw [JW] at hok
      simp only [J.half] at hok
      obtain ⟨⟨o1, o2, o3⟩, o4⟩ := hok
      clear ih hV hn o4
      by_cases he : x % 2 = 0
      · rw [if_pos he] at hh
        subst hh
        refine (fromGo_int (x / 2) w (by omega) (by omega)).mono ?_
        rintro e w' ⟨rfl, hb⟩
        rw [show 2 * (x / 2) = x by omega]
        exact ⟨_, rfl, VR.num _ _ _, hb⟩
      · rw [if_neg he] at hh
        subst hh
        have x0 : x ≠ 0 := by omega
        have x1 : -9007199254740992 < x := by omega
        have x2 : x < 9007199254740992 := by omega
        have hop : ∀ t w, (binOp .mul t (.float .f64 4611686018427387904) (.float .f64 (fb x))).run Tryz.prog w = .ok (.float .f64 (FloatKind.f64.nearest x)) w := fun t w => run_float_arith w .mul t .f64 _ _ _ (two_half x0 x1 x2)
        have H := Lib.hid fun w' => half_whole x0 x1 x2 w'
        have HB0 := Lib.hid hb0; have Z0 := Lib.hid hsz0
        clear he o1 o2 o3 x0 x1 x2 hb0 hS hsz0
        generalize FloatKind.f64.nearest x = X at *
        generalize fb x = Y at *
        unfold VC.nil VC.arr at *
        unfold numVC VC.val VC.arr VC.nil at H
        go_enter Tryz.func15, Tryz.ntmps15
        go_wp2_with (simp only [hop])
        refine (H.out _).mono ?_
        rintro e w1 ⟨rfl, hb1⟩
        have x0 := E0.out.below hb1 (by simp)
        have m0 := x0.c0; have m1 := x0.c1; have m2 := x0.c2; have m3 := x0.c3; have m4 := x0.c4; have m5 := x0.c5; have mf := x0.fr; have lt0 := x0.lt
        have HB1 := Lib.hid hb1
        simp only at m0 m1 m2 m3 m4 m5
        clear x0 hb1
        go_wp2_with fail
        refine bodyPost_ret (v := .tuple #[.agg #[.int .i64 3, .int .i64 x, .string ByteArray.empty, .slice none 0 0, .slice none 0 0, .slice none 0 0], .bool true]) (by simp [results, Tryz.results15, go_sem, m0, m1, m2, m3, m4, m5]) rfl ?_
        show FromGoPost w (.num x) (.returned (.tuple #[VC.val (numVC x), .bool true])) (valStored w1 w.heap.size (numVC x))
        exact ⟨_, rfl, VR.num _ _ _, valStored_below (HB0.out.trans (HB1.out.mono HB0.out.size)) (Nat.le_refl _)⟩
    | str s =>
      obtain rfl := hV.head
      clear ih hV hok hn hS hb0 hsz0 E0
      go_enter Tryz.func15, Tryz.ntmps15
      go_wp2_with fail
      exact bodyPost_ret (v := .tuple #[.agg #[.int .i64 4, .int .i64 0, .string s, .slice none 0 0, .slice none 0 0, .slice none 0 0], .bool true]) (by simp [results, Tryz.results15, go_sem]) rfl ⟨{VC.nil with k := 4, s := s}, rfl, VR.str _ _ _, (Below.refl _ _).alloc (Nat.le_refl _) _⟩
    | arr l =>
      obtain ⟨a, cap, rfl, hel⟩ := hV.arr
      rw [JW] at hok
      have L := listFromGo_any (S := S) (l := l) (a := a) (cap := cap) (w := w.alloc (.cells VC.nil.arr 26)) hok.2.1 (fun b h => by have := hS b h; omega)
        (fun i hi => by
          obtain ⟨b, o, x, h1, h2, h3, h4⟩ := hel i hi
          exact ⟨b, o, x, h1, h2, (hb0.cell (p := ⟨b, o + i, none⟩) (hS b h2)).trans h3, h4.go (fun b h => hb0.block b (hS b h)) (fun _ h => h)⟩)
        (fun i hi x w' S' hx hS' => ih l[i] x w' S' (by have := sizeOf_list (.arr l) (i := i) hi; simp only [J.list] at this; omega) (hok.2.2.2.1 i hi) hx hS')
      have LL := Lib.hid L; have HB0 := Lib.hid hb0; have Z0 := Lib.hid hsz0
      clear ih hV hok hn L hb0 hel hS hsz0
      unfold VC.nil VC.arr at *
      go_enter Tryz.func15, Tryz.ntmps15
      go_wp2_with fail
      refine LL.out.mono ?_
      rintro e w1 ⟨c, rfl, hV, hb1⟩
      have x0 := E0.out.below hb1 (by simp)
      have m0 := x0.c0; have m1 := x0.c1; have m2 := x0.c2; have m3 := x0.c3; have m4 := x0.c4; have m5 := x0.c5; have mf := x0.fr; have lt0 := x0.lt
      have HB1 := Lib.hid hb1; have HV := Lib.hid hV
      simp only at m0 m1 m2 m3 m4 m5
      clear x0 hb1 hV
      obtain ⟨k9, h9, s9, la9, ll9, lc9, ka9, kl9, kc9, va9, vl9, vc9⟩ := c
      unfold VC.val VC.arr
      go_wp2_with fail
      refine bodyPost_ret (v := .tuple #[.agg #[.int .i64 k9, .int .i64 h9, .string s9, .slice la9 ll9 lc9, .slice ka9 kl9 kc9, .slice va9 vl9 vc9], .bool true]) (by simp [results, Tryz.results15, go_sem, m0, m1, m2, m3, m4, m5]) rfl ?_
      show FromGoPost w (.arr l) (.returned (.tuple #[VC.val ⟨k9, h9, s9, la9, ll9, lc9, ka9, kl9, kc9, va9, vl9, vc9⟩, .bool true])) (valStored w1 w.heap.size ⟨k9, h9, s9, la9, ll9, lc9, ka9, kl9, kc9, va9, vl9, vc9⟩)
      exact ⟨_, rfl, HV.out.stored (by simp) (by simp), valStored_below (HB0.out.trans (HB1.out.mono HB0.out.size)) (Nat.le_refl _)⟩
    | obj m =>
      obtain ⟨b, mv, rfl, hbS, hM, hp, hel⟩ := hV.obj
      rw [JW] at hok
      have L := mapFromGo_any (S := S) (m := m) (b := b) (mv := mv) (w := w.alloc (.cells VC.nil.arr 26)) hok.2.2.1 (fun b h => by have := hS b h; omega) hok.2.2.2.2.2.1 hok.2.2.2.2.1 hbS (hM.same (hb0.block b (hS b hbS))) hp
        (fun i hi => by
          obtain ⟨x, h1, h2⟩ := hel i hi
          exact ⟨x, h1, h2.go (fun b h => hb0.block b (hS b h)) (fun _ h => h)⟩)
        (fun i hi x w' S' hx hS' => ih m[i].2 x w' S' (by have := sizeOf_ents (.obj m) (i := i) hi; simp only [J.ents] at this; omega) (hok.2.2.2.2.2.2 i hi) hx hS')
      have LL := Lib.hid L; have HB0 := Lib.hid hb0; have Z0 := Lib.hid hsz0
      clear ih hV hok hn L hb0 hel hS hsz0 hM hp
      unfold VC.nil VC.arr at *
      go_enter Tryz.func15, Tryz.ntmps15
      go_wp2_with fail
      refine LL.out.mono ?_
      rintro e w1 ⟨c, rfl, hV, hb1⟩
      have x0 := E0.out.below hb1 (by simp)
      have m0 := x0.c0; have m1 := x0.c1; have m2 := x0.c2; have m3 := x0.c3; have m4 := x0.c4; have m5 := x0.c5; have mf := x0.fr; have lt0 := x0.lt
      have HB1 := Lib.hid hb1; have HV := Lib.hid hV
      simp only at m0 m1 m2 m3 m4 m5
      clear x0 hb1 hV
      obtain ⟨k9, h9, s9, la9, ll9, lc9, ka9, kl9, kc9, va9, vl9, vc9⟩ := c
      unfold VC.val VC.arr
      go_wp2_with fail
      refine bodyPost_ret (v := .tuple #[.agg #[.int .i64 k9, .int .i64 h9, .string s9, .slice la9 ll9 lc9, .slice ka9 kl9 kc9, .slice va9 vl9 vc9], .bool true]) (by simp [results, Tryz.results15, go_sem, m0, m1, m2, m3, m4, m5]) rfl ?_
      show FromGoPost w (.obj m) (.returned (.tuple #[VC.val ⟨k9, h9, s9, la9, ll9, lc9, ka9, kl9, kc9, va9, vl9, vc9⟩, .bool true])) (valStored w1 w.heap.size ⟨k9, h9, s9, la9, ll9, lc9, ka9, kl9, kc9, va9, vl9, vc9⟩)
      exact ⟨_, rfl, HV.out.stored (by simp) (by simp), valStored_below (HB0.out.trans (HB1.out.mono HB0.out.size)) (Nat.le_refl _)⟩

/-- A value of the package is no error. -/
theorem JR.noError {w : World} {S : Nat → Prop} {j : J} {v : Value} (h : JR w S j v) (w' : World) : (Instr.typeAssert v 20 47 true).run Tryz.prog w' = .ok (.tuple #[.nilIface, .bool false]) w' := by
  have h := h.head
  cases j with
  | null => obtain rfl := h; exact as_nil_error w'
  | bool b => obtain rfl := h; exact as_bool_error _ w'
  | num x =>
    simp only [JHead] at h
    by_cases he : x % 2 = 0
    · rw [if_pos he] at h
      subst h
      exact as_int_error _ w'
    · rw [if_neg he] at h
      subst h
      exact as_float_error _ w'
  | str s => obtain rfl := h; exact as_string_error _ w'
  | arr l => obtain ⟨a, cap, rfl⟩ := h; exact as_anys_error _ w'
  | obj m => obtain ⟨b, rfl⟩ := h; exact as_map_error _ w'

/-- What result leaves of a value. -/
def ResultPost (w : World) (j : J) (e : Ending) (w' : World) : Prop := ∃ c, e = .returned (resVal c 0) ∧ VR w' (New w.heap.size w') j c ∧ Below w.heap.size w w'

theorem result_any (j : J) (v : Value) (w : World) (S : Nat → Prop) (hj : JW j) (hV : JR w S j v) (hS : ∀ b, S b → b < w.heap.size) : Calls Tryz.prog 9 #[v] w (ResultPost w j) := by
  have hne := fun w' => hV.noError w'
  have form := hV.form
  have hb0 : Below w.heap.size w (w.alloc (.cells #[.int .i64 0, .int .i64 0, .string ByteArray.empty, .slice none 0 0, .slice none 0 0, .slice none 0 0, .int .i64 0] 29)) := (Below.refl _ _).alloc (Nat.le_refl _) _
  have F := Lib.hid (fromGo_any (SizeOf.sizeOf j) j v (w.alloc (.cells #[.int .i64 0, .int .i64 0, .string ByteArray.empty, .slice none 0 0, .slice none 0 0, .slice none 0 0, .int .i64 0] 29)) S (Nat.le_refl _) hj
    (hV.go (fun b h => hb0.block b (hS b h)) (fun _ h => h)) (fun b h => Nat.lt_of_lt_of_le (hS b h) hb0.size))
  have RB := Lib.hid (resbox_alloc w VC.nil 0)
  have HB0 := Lib.hid hb0
  clear hV hS hj hb0
  unfold VC.nil at RB
  rcases form with rfl | ⟨t, u, rfl⟩
  all_goals
    go_enter Tryz.func9, Tryz.ntmps9
    go_wp2_with (simp only [hne])
    refine F.out.mono ?_
    rintro e w1 ⟨c, rfl, hV, hb1⟩
    have rb := RB.out.below hb1 (by simp)
    have q0 := rb.c0; have q1 := rb.c1; have q2 := rb.c2; have q3 := rb.c3; have q4 := rb.c4; have q5 := rb.c5; have q6 := rb.c6; have qf := rb.fr
    have lt := rb.lt
    have HB1 := Lib.hid hb1; have HV := Lib.hid hV
    clear rb hb1 hV
    obtain ⟨k9, h9, s9, la9, ll9, lc9, ka9, kl9, kc9, va9, vl9, vc9⟩ := c
    unfold VC.val VC.arr
    go_wp2_with fail
    refine bodyPost_ret (v := .agg #[.int .i64 k9, .int .i64 h9, .string s9, .slice la9 ll9 lc9, .slice ka9 kl9 kc9, .slice va9 vl9 vc9, .int .i64 0]) (by simp [results, Tryz.results9, go_sem, q0, q1, q2, q3, q4, q5, q6, lt]) rfl ?_
    have sz := HB1.out.size
    simp only [World.size_alloc] at sz
    have hr : Below w.heap.size w (resStored w1 w.heap.size ⟨k9, h9, s9, la9, ll9, lc9, ka9, kl9, kc9, va9, vl9, vc9⟩ 0) := resStored_below (HB0.out.trans (HB1.out.mono HB0.out.size)) (Nat.le_refl _)
    have hz : (resStored w1 w.heap.size ⟨k9, h9, s9, la9, ll9, lc9, ka9, kl9, kc9, va9, vl9, vc9⟩ 0).heap.size = w1.heap.size := resStored_size
    refine ⟨⟨k9, h9, s9, la9, ll9, lc9, ka9, kl9, kc9, va9, vl9, vc9⟩, rfl, ?_, ?_⟩
    · show VR ((resStored w1 w.heap.size ⟨k9, h9, s9, la9, ll9, lc9, ka9, kl9, kc9, va9, vl9, vc9⟩ 0).alloc _) (New w.heap.size ((resStored w1 w.heap.size ⟨k9, h9, s9, la9, ll9, lc9, ka9, kl9, kc9, va9, vl9, vc9⟩ 0).alloc _)) j _
      refine HV.out.go (fun b hb => ?_) (fun b hb => ⟨by have := hb.1; simp at this; omega, by rw [World.size_alloc, hz]; have := hb.2; omega⟩)
      rw [Below.heap_alloc _ _ _ (by rw [hz]; exact hb.2)]
      exact resStored_block (by have := hb.1; simp at this; omega)
    · exact hr.alloc (by rw [hz]; omega) _
end Go.Proofs.YtbdciilkapgfjaaGreatDoor

namespace Go.Proofs.YtbdciilkapgfjaaGreatDoor
open Go.RowKit

@[go_sem] theorem as_f0err_error (v : Value) (w : World) : (Instr.typeAssert (.iface 65 v) 20 47 true).run Tryz.prog w = .ok (.tuple #[.iface 65 v, .bool true]) w := run_typeAssert_hasB Tryz.underlying47 (by kernel_rfl) v 20 w

/-- What a function of the package gives: an error, or a value in blocks of S and new memory. -/
def GIn (S : Nat → Prop) (w : World) (o : Out) (e : Ending) (w' : World) : Prop :=
  match o with
  | .silent => True
  | .raises => ∃ v, e = .returned v ∧ IsErr v ∧ Below w.heap.size w w'
  | .value j => ∃ v, e = .returned v ∧ JR w' (fun b => S b ∨ New w.heap.size w' b) j v ∧ Below w.heap.size w w'

/-- Values of the package in a row that a call owns, each a reading in blocks of S. -/
def ARow (lo : Nat) (S : Nat → Prop) (l : List J) (v : Value) (xs : List Value) (w : World) : Prop :=
  w.ownsRow lo 20 1 v xs.length xs ∧ xs.length = l.length ∧ ∀ i (_ : i < l.length) (h : i < xs.length), JR w S l[i] xs[i]

theorem ARow.jr {lo : Nat} {S : Nat → Prop} {l : List J} {a : Option Addr} {n cap : Nat} {xs : List Value} {w : World} (h : ARow lo S l (.slice a n cap) xs w) (hn : n = l.length) :
    JR w (fun b => S b ∨ New lo w b) (.arr l) (.iface 40 (.slice a n cap)) := by
  subst hn
  refine JR.of_arr fun i hi => ?_
  have hx : i < xs.length := by have := h.2.1; omega
  obtain ⟨g, cap', e, hg, hlt⟩ := h.1.form (by omega)
  have e' := e
  simp only [Value.slice.injEq] at e'
  obtain ⟨rfl, _, rfl⟩ := e'
  have hc := h.1.cells (g := g) rfl i xs[i] (by simp [hx])
  rw [addr_add] at hc
  exact ⟨g, 0, xs[i], rfl, Or.inr ⟨hg, hlt⟩, hc, (by have h1 := h.1; rw [h.2.1] at h1; exact h1.frozenAt (0 + i)), (h.2.2 i hi hx).mono (fun b hb => Or.inl hb)⟩

theorem result_in {o : Out} (hok : ∀ j, o = .value j → JW j) (ho : o ≠ .silent) {w w1 : World} {e : Ending} {S : Nat → Prop} (h : GIn S w o e w1) (hS : ∀ b, S b → b < w.heap.size) :
    ∃ v, e = .returned v ∧ Below w.heap.size w w1 ∧ Calls Tryz.prog 9 #[v] w1 fun e w' => ∃ c, e = .returned (resVal c o.how) ∧ (∀ j, o = .value j → VR w' (New w1.heap.size w') j c) ∧ Below w1.heap.size w1 w' := by
  cases o with
  | silent => exact absurd rfl ho
  | raises =>
    obtain ⟨v, rfl, hv, hb⟩ := h
    refine ⟨_, rfl, hb, (result_err v w1 hv).mono ?_⟩
    rintro e w' ⟨rfl, hb1⟩
    exact ⟨_, rfl, (fun j hj => by cases hj), hb1⟩
  | value j =>
    obtain ⟨v, rfl, hG, hb⟩ := h
    refine ⟨_, rfl, hb, (result_any j v w1 _ (hok j rfl) hG (fun b hb' => ?_)).mono ?_⟩
    · rcases hb' with h | h
      · exact Nat.lt_of_lt_of_le (hS b h) hb.size
      · exact h.2
    rintro e w' ⟨c, rfl, hV, hb1⟩
    exact ⟨c, rfl, (fun j hj => by cases hj; exact hV), hb1⟩

/-- A door's result, stored. -/
theorem door_out {o : Out} {w w4 : World} {N lo : Nat} {c : VC} (hz : o ≠ .silent) (hb : Below w.heap.size w w4) (hN : w.heap.size ≤ N) (hlo : N < lo) (hV : ∀ j, o = .value j → VR w4 (New lo w4) j c) :
    DoorOut w o (.returned (resVal c o.how)) (resStored w4 N c o.how) := by
  have hfin : Below w.heap.size w (resStored w4 N c o.how) := resStored_below hb hN
  have hV3 : ∀ j', o = .value j' → VR (resStored w4 N c o.how) (New w.heap.size (resStored w4 N c o.how)) j' c :=
    fun j' hj => (hV j' hj).go (fun b hb => resStored_block (by have := hb.1; omega)) (fun b hb => ⟨by have := hb.1; omega, by rw [resStored_size]; exact hb.2⟩)
  cases o with
  | silent => exact absurd rfl hz
  | raises => exact ⟨_, rfl, hfin⟩
  | value j' => exact ⟨_, rfl, hV3 j' rfl, hfin⟩
end Go.Proofs.YtbdciilkapgfjaaGreatDoor

namespace Go.Proofs.YtbdciilkapgfjaaGreatDoor
open Go.RowKit

/-- A made row of which the first m have been filled. -/
def fillRow (f : Nat → Value) (m n : Nat) : List Value := (List.range n).map fun i => if i < m then f i else .nilIface
theorem fillRow_len (f : Nat → Value) (m n : Nat) : (fillRow f m n).length = n := by simp [fillRow]
theorem fillRow_zero (f : Nat → Value) (n : Nat) : fillRow f 0 n = List.replicate n .nilIface := by
  apply List.ext_getElem
  · simp [fillRow]
  · intro i h1 h2; simp [fillRow]
theorem fillRow_set (f : Nat → Value) {m n : Nat} : (fillRow f m n).set m (f m) = fillRow f (m + 1) n := by
  apply List.ext_getElem
  · simp [fillRow]
  · intro i h1 h2
    rw [List.getElem_set]
    simp only [fillRow, List.getElem_map, List.getElem_range]
    by_cases e : m = i
    · subst e; simp
    · simp only [e, if_false]
      by_cases h3 : i < m
      · simp [h3, show i < m + 1 by omega]
      · simp [h3, show ¬ i < m + 1 by omega]
theorem fillRow_get (f : Nat → Value) {m n i : Nat} (h : i < m) (hi : i < (fillRow f m n).length) : (fillRow f m n)[i] = f i := by
  simp [fillRow, h]

/-- A row that is filled reads as an array. -/
theorem JR.filled {w : World} {S : Nat → Prop} {N cap : Nat} {f : Nat → Value} {l : List J} (hA : Arr w N 20 (fillRow f l.length l.length)) (hS : S N) (h : ∀ i (_ : i < l.length), JR w S l[i] (f i)) :
    JR w S (.arr l) (.iface 40 (.slice (some ⟨N, 0, none⟩) l.length cap)) := by
  refine JR.of_arr fun i hi => ⟨N, 0, f i, rfl, hS, ?_, hA.fr (0 + i), h i hi⟩
  have h1 : i < (fillRow f l.length l.length).length := by rw [fillRow_len]; exact hi
  have := hA.cell h1
  rw [fillRow_get f hi h1] at this
  simpa using this
end Go.Proofs.YtbdciilkapgfjaaGreatDoor

namespace Go.Proofs.YtbdciilkapgfjaaGreatDoor
open Go.RowKit

/-- The keys of an array or object, and its values. -/
def keysJ : J → List J
  | .arr l => (List.range l.length).map fun i : Nat => .num (2 * (i : Int))
  | .obj m => m.map fun p => .str p.1
  | _ => []
def valsJ : J → List J
  | .arr l => l
  | .obj m => m.map (·.2)
  | _ => []
/-- An array or an object. -/
def Holds : J → Prop | .arr _ => True | .obj _ => True | _ => False

theorem keys_vals_len (j : J) : (keysJ j).length = (valsJ j).length := by cases j <;> simp [keysJ, valsJ]
theorem vals_len {j : J} (hj : JOK j) : (valsJ j).length ≤ 400 := by
  rw [JOK] at hj
  cases j with
  | arr l => exact hj.2.2.1
  | obj m => have := hj.2.2.2.1; simpa [valsJ, J.ents] using this
  | _ => simp [valsJ]

theorem JOK.leafs {j : J} (hh : (-18014398509481984 ≤ j.half ∧ j.half ≤ 18014398509481984 ∧ (j.half % 2 = 0 ∨ (-9007199254740992 < j.half ∧ j.half < 9007199254740992)))) (ht : j.text.size ≤ 1000000) (hl : j.list = []) (he : j.ents = []) : JOK j := by
  rw [JOK]
  refine ⟨hh, ht, by simp [hl], by simp [he], fun i hi => ?_, fun i hi => ?_, fun i hi => ?_, fun i hi => ?_⟩
  · simp [hl] at hi
  · simp [he] at hi
  · simp [he] at hi
  · simp [he] at hi
theorem JOK.list_of {l : List J} (hl : l.length ≤ 400) (h : ∀ x ∈ l, JOK x) : JOK (.arr l) := by
  rw [JOK]
  refine ⟨by simp [J.half], by simp [J.text, ByteArray.size], hl, by simp [J.ents], fun i hi => h _ (List.getElem_mem _), fun i hi => ?_, fun i hi => ?_, fun i hi => ?_⟩
  · simp [J.ents] at hi
  · simp [J.ents] at hi
  · simp [J.ents] at hi

theorem keys_ok {j : J} (hj : JOK j) : ∀ x ∈ keysJ j, JOK x := by
  intro x hx
  cases j with
  | arr l =>
    have hl : l.length ≤ 400 := by rw [JOK] at hj; exact hj.2.2.1
    obtain ⟨i, hi, rfl⟩ := List.mem_map.1 hx
    have hi' := List.mem_range.1 hi
    exact .leafs (by simp only [J.half]; omega) (by simp [J.text, ByteArray.size]) rfl rfl
  | obj m =>
    rw [JOK] at hj
    obtain ⟨p, hp, rfl⟩ := List.mem_map.1 hx
    obtain ⟨i, hi, rfl⟩ := List.getElem_of_mem hp
    exact .leafs (by simp [J.half]) (by have := hj.2.2.2.2.2.1 i hi; simp only [J.ents] at this; simp only [J.text]; omega) rfl rfl
  | _ => cases hx
theorem vals_ok {j : J} (hj : JOK j) : ∀ x ∈ valsJ j, JOK x := by
  intro x hx
  cases j with
  | arr l => obtain ⟨i, hi, rfl⟩ := List.getElem_of_mem hx; exact hj.list hi
  | obj m =>
    obtain ⟨p, hp, rfl⟩ := List.mem_map.1 hx
    obtain ⟨i, hi, rfl⟩ := List.getElem_of_mem hp
    exact hj.ents hi
  | _ => cases hx
theorem keys_all {j : J} (hj : JOK j) : JOK (.arr (keysJ j)) := .list_of (by rw [keys_vals_len]; exact vals_len hj) (keys_ok hj)
theorem vals_all {j : J} (hj : JOK j) : JOK (.arr (valsJ j)) := .list_of (vals_len hj) (vals_ok hj)
theorem len_ok {j : J} (hj : JOK j) : JOK (.num (2 * ((valsJ j).length : Int))) := by
  have := vals_len hj
  exact .leafs (by simp only [J.half]; omega) (by simp [J.text, ByteArray.size]) rfl rfl
end Go.Proofs.YtbdciilkapgfjaaGreatDoor

namespace Go.Proofs.YtbdciilkapgfjaaGreatDoor
open Go.RowKit

set_option maxRecDepth 100000 in
theorem IToString_any (j : J) (o : Out) (a : VC) (w : World) (S : Nat → Prop) (hj : JOK j) (ha : VR w S j a) (hS : ∀ b, S b → b < w.heap.size) (hs : o ≠ .silent) (hok : ∀ j', o = .value j' → JW j')
    (hZ : ∀ (v : Value) (w1 : World) (S1 : Nat → Prop), JR w1 S1 j v → (∀ b, S1 b → b < w1.heap.size) → Calls Tryz.prog 11 #[v] w1 (GIn S1 w1 o)) :
    Calls Tryz.prog 6 #[a.val] w (DoorOut w o) := by
  have HA := Lib.hid ha; have HS := Lib.hid hS; have HN := Lib.hid hs; have HJ := Lib.hid hj; have HO := Lib.hid hok; have HZ := Lib.hid hZ
  clear ha hS hs hj hok hZ
  obtain ⟨k0, h0, s0, la, ll, lc, ka, kl, kc, va, vl, vc⟩ := a
  have R0 := Lib.hid (resbox_alloc (w.alloc (.cells (VC.arr ⟨k0, h0, s0, la, ll, lc, ka, kl, kc, va, vl, vc⟩) 26)) VC.nil 0)
  have W3 : Hid (Below w.heap.size w ((w.alloc (.cells (VC.arr ⟨k0, h0, s0, la, ll, lc, ka, kl, kc, va, vl, vc⟩) 26)).alloc (.cells #[.int .i64 0, .int .i64 0, .string ByteArray.empty, .slice none 0 0, .slice none 0 0, .slice none 0 0, .int .i64 0] 29))) :=
    Lib.hid (((Below.refl _ _).alloc (Nat.le_refl _) _).alloc (by simp) _)
  have T1 := Lib.hid fun hn => toGo_any (SizeOf.sizeOf j) j _ _ S (Nat.le_refl _) HJ.out (HA.out.go (fun b hb => W3.out.block b (HS.out b hb)) (fun _ h => h)) hn
  unfold VC.val VC.arr at *
  unfold VC.nil at R0
  go_enter Tryz.func6, Tryz.ntmps6
  go_wp2_with fail
  refine (T1.out ?_).mono ?_
  · intro b hb; exact Nat.lt_of_lt_of_le (HS.out b hb) W3.out.size
  rintro e w1 ⟨v1, rfl, hG1, hb1⟩
  have HB1 := Lib.hid hb1
  have W4 := Lib.hid (W3.out.trans (hb1.mono W3.out.size))
  have Z := Lib.hid (HZ.out v1 w1 _ (GR.jr _ (Nat.le_refl _) hG1) (fun b hb => hb.2))
  clear hb1 hG1
  go_wp2_with fail
  refine Z.out.mono ?_
  intro e w3 hz
  obtain ⟨v3, rfl, hb3, hc⟩ := result_in HO.out HN.out hz (fun b hb => hb.2)
  have W6 := Lib.hid (W4.out.trans (hb3.mono W4.out.size))
  have HB3 := Lib.hid hb3
  have HC2 := Lib.hid hc
  clear hz hb3 hc
  go_wp2_with fail
  refine HC2.out.mono ?_
  rintro e w4 ⟨c, rfl, hV, hb4⟩
  have W7 := Lib.hid (W6.out.trans (hb4.mono W6.out.size))
  have r0 := R0.out.below ((HB1.out.trans (HB3.out.mono HB1.out.size)).trans (hb4.mono (Nat.le_trans HB1.out.size HB3.out.size))) (by simp)
  simp only [World.size_alloc] at r0
  have q0 := r0.c0; have q1 := r0.c1; have q2 := r0.c2; have q3 := r0.c3; have q4 := r0.c4; have q5 := r0.c5; have q6 := r0.c6; have qf := r0.fr; have lt := r0.lt
  have HV := Lib.hid hV
  obtain ⟨k9, h9, s9, la9, ll9, lc9, ka9, kl9, kc9, va9, vl9, vc9⟩ := c
  unfold resVal
  clear r0 hV hb4
  go_wp2_with fail
  refine bodyPost_ret (v := .agg #[.int .i64 k9, .int .i64 h9, .string s9, .slice la9 ll9 lc9, .slice ka9 kl9 kc9, .slice va9 vl9 vc9, .int .i64 o.how]) (by simp [results, Tryz.results6, go_sem, q0, q1, q2, q3, q4, q5, q6]) rfl ?_
  have hsz : w.heap.size + 2 ≤ w3.heap.size := Nat.le_trans HB1.out.size HB3.out.size |> Nat.le_trans (by simp)
  exact door_out (N := w.heap.size + 1) HN.out W7.out (by omega) (by omega) HV.out

set_option maxRecDepth 100000 in
theorem IToNumber_any (j : J) (o : Out) (a : VC) (w : World) (S : Nat → Prop) (hj : JOK j) (ha : VR w S j a) (hS : ∀ b, S b → b < w.heap.size) (hs : o ≠ .silent) (hok : ∀ j', o = .value j' → JW j')
    (hZ : ∀ (v : Value) (w1 : World) (S1 : Nat → Prop), Below w.heap.size w w1 → JR w1 S1 j v → (∀ b, S1 b → b < w1.heap.size) → Calls Tryz.prog 10 #[v] w1 (GIn S1 w1 o)) :
    Calls Tryz.prog 5 #[a.val] w (DoorOut w o) := by
  have HA := Lib.hid ha; have HS := Lib.hid hS; have HN := Lib.hid hs; have HJ := Lib.hid hj; have HO := Lib.hid hok; have HZ := Lib.hid hZ
  clear ha hS hs hj hok hZ
  obtain ⟨k0, h0, s0, la, ll, lc, ka, kl, kc, va, vl, vc⟩ := a
  have R0 := Lib.hid (resbox_alloc (w.alloc (.cells (VC.arr ⟨k0, h0, s0, la, ll, lc, ka, kl, kc, va, vl, vc⟩) 26)) VC.nil 0)
  have W3 : Hid (Below w.heap.size w ((w.alloc (.cells (VC.arr ⟨k0, h0, s0, la, ll, lc, ka, kl, kc, va, vl, vc⟩) 26)).alloc (.cells #[.int .i64 0, .int .i64 0, .string ByteArray.empty, .slice none 0 0, .slice none 0 0, .slice none 0 0, .int .i64 0] 29))) :=
    Lib.hid (((Below.refl _ _).alloc (Nat.le_refl _) _).alloc (by simp) _)
  have T1 := Lib.hid fun hn => toGo_any (SizeOf.sizeOf j) j _ _ S (Nat.le_refl _) HJ.out (HA.out.go (fun b hb => W3.out.block b (HS.out b hb)) (fun _ h => h)) hn
  unfold VC.val VC.arr at *
  unfold VC.nil at R0
  go_enter Tryz.func5, Tryz.ntmps5
  go_wp2_with fail
  refine (T1.out ?_).mono ?_
  · intro b hb; exact Nat.lt_of_lt_of_le (HS.out b hb) W3.out.size
  rintro e w1 ⟨v1, rfl, hG1, hb1⟩
  have HB1 := Lib.hid hb1
  have W4 := Lib.hid (W3.out.trans (hb1.mono W3.out.size))
  have Z := Lib.hid (HZ.out v1 w1 _ W4.out (GR.jr _ (Nat.le_refl _) hG1) (fun b hb => hb.2))
  clear hb1 hG1
  go_wp2_with fail
  refine Z.out.mono ?_
  intro e w3 hz
  obtain ⟨v3, rfl, hb3, hc⟩ := result_in HO.out HN.out hz (fun b hb => hb.2)
  have W6 := Lib.hid (W4.out.trans (hb3.mono W4.out.size))
  have HB3 := Lib.hid hb3
  have HC2 := Lib.hid hc
  clear hz hb3 hc
  go_wp2_with fail
  refine HC2.out.mono ?_
  rintro e w4 ⟨c, rfl, hV, hb4⟩
  have W7 := Lib.hid (W6.out.trans (hb4.mono W6.out.size))
  have r0 := R0.out.below ((HB1.out.trans (HB3.out.mono HB1.out.size)).trans (hb4.mono (Nat.le_trans HB1.out.size HB3.out.size))) (by simp)
  simp only [World.size_alloc] at r0
  have q0 := r0.c0; have q1 := r0.c1; have q2 := r0.c2; have q3 := r0.c3; have q4 := r0.c4; have q5 := r0.c5; have q6 := r0.c6; have qf := r0.fr; have lt := r0.lt
  have HV := Lib.hid hV
  obtain ⟨k9, h9, s9, la9, ll9, lc9, ka9, kl9, kc9, va9, vl9, vc9⟩ := c
  unfold resVal
  clear r0 hV hb4
  go_wp2_with fail
  refine bodyPost_ret (v := .agg #[.int .i64 k9, .int .i64 h9, .string s9, .slice la9 ll9 lc9, .slice ka9 kl9 kc9, .slice va9 vl9 vc9, .int .i64 o.how]) (by simp [results, Tryz.results5, go_sem, q0, q1, q2, q3, q4, q5, q6]) rfl ?_
  have hsz : w.heap.size + 2 ≤ w3.heap.size := Nat.le_trans HB1.out.size HB3.out.size |> Nat.le_trans (by simp)
  exact door_out (N := w.heap.size + 1) HN.out W7.out (by omega) (by omega) HV.out

end Go.Proofs.YtbdciilkapgfjaaGreatDoor
