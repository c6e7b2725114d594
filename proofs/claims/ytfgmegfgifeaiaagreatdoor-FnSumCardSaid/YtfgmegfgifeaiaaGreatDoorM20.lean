/- impl.fromGo and impl.result of every right JSON value, as the package has it. A part of the proof. A part of the proof. A part of the proof. A part of the proof. A part of the proof. -/
import Derived.Test.YtfgmegfgifeaiaaGreatDoorM16
import Derived.Test.YtfgmegfgifeaiaaGreatDoorM19
import Derived.Test.YtfgmegfgifeaiaaGreatDoorTypes
import Derived.Test.YtfgmegfgifeaiaaGreatDoorM11
namespace Go.Proofs.YtfgmegfgifeaiaaGreatDoor
open Go.RowKit

/-- A right JSON value, of whatever size is met. -/
def JW (j : J) : Prop :=
  (-18014398509481984 ≤ j.half ∧ j.half ≤ 18014398509481984 ∧ (j.half % 2 = 0 ∨ (-9007199254740992 < j.half ∧ j.half < 9007199254740992))) ∧
    j.list.length ≤ 1000000 ∧ j.ents.length ≤ 1000000 ∧ (∀ i (_ : i < j.list.length), JW j.list[i]) ∧ (∀ i (_ : i < j.ents.length), j.ents[i].1.size ≤ 1000000) ∧
    (∀ i (_ : i + 1 < j.ents.length), Op.bytesLess j.ents[i].1.toList j.ents[i + 1].1.toList = true) ∧ ∀ i (_ : i < j.ents.length), JW j.ents[i].2
termination_by SizeOf.sizeOf j
decreasing_by
  · exact sizeOf_list j ‹_›
  · exact sizeOf_ents j ‹_›

theorem JOK.jw : ∀ (n : Nat) {j : J}, SizeOf.sizeOf j ≤ n → JOK j → JW j
  | 0, j, hn, _ => by cases j <;> simp at hn
  | n + 1, j, hn, h => by
    rw [JOK] at h
    rw [JW]
    obtain ⟨h1, _, h3, h4, h5, h6, h7, h8⟩ := h
    exact ⟨h1, by omega, by omega, fun i hi => JOK.jw n (by have := sizeOf_list j hi; omega) (h5 i hi), fun i hi => by have := h6 i hi; omega, h7, fun i hi => JOK.jw n (by have := sizeOf_ents j hi; omega) (h8 i hi)⟩

theorem VR.str (w : World) (S : Nat → Prop) (s : ByteArray) : VR w S (.str s) {VC.nil with k := 4, s := s} := by
  rw [VR]
  refine ⟨⟨rfl, rfl, rfl, rfl, rfl, rfl, Nat.le_refl _, Nat.le_refl _, Nat.le_refl _, fun _ => rfl, fun _ => rfl, fun _ => rfl⟩, fun i hi => ?_, fun i hi => ?_, fun i hi => ?_⟩
  · simp [J.list] at hi
  · simp [J.ents] at hi
  · simp [J.ents] at hi
theorem VR.null (w : World) (S : Nat → Prop) : VR w S .null VC.nil := by
  rw [VR]
  refine ⟨⟨rfl, rfl, rfl, rfl, rfl, rfl, Nat.le_refl _, Nat.le_refl _, Nat.le_refl _, fun _ => rfl, fun _ => rfl, fun _ => rfl⟩, fun i hi => ?_, fun i hi => ?_, fun i hi => ?_⟩
  · simp [J.list] at hi
  · simp [J.ents] at hi
  · simp [J.ents] at hi

set_option maxRecDepth 100000 in
set_option maxHeartbeats 2000000 in
theorem fromGo_any (n : Nat) : ∀ (j : J) (v : Value) (w : World) (S : Nat → Prop), SizeOf.sizeOf j ≤ n → JW j → JR w S j v → (∀ b, S b → b < w.heap.size) → Calls Tryz.prog 31 #[v] w (FromGoPost w j) := by
  induction n with
  | zero => intro j v w S hn; cases j <;> simp at hn
  | succ n ih =>
    intro j v w S hn hok hV hS
    have hb0 : Below w.heap.size w (w.alloc (.cells VC.nil.arr 26)) := (Below.refl _ _).alloc (Nat.le_refl _) _
    have E0 := Lib.hid (box_alloc w VC.nil)
    have hsz0 : (w.alloc (.cells VC.nil.arr 26)).heap.size = w.heap.size + 1 := by simp
    cases j with
    | null =>
      obtain rfl := hV.head
      clear ih hV hok hn hS hb0 hsz0 E0
      go_enter Tryz.func31, Tryz.ntmps31
      go_wp2_with fail
      exact bodyPost_ret (v := .tuple #[VC.nil.val, .bool true]) (by simp [results, Tryz.results31, go_sem]; rfl) rfl ⟨_, rfl, VR.null _ _, (Below.refl _ _).alloc (Nat.le_refl _) _⟩
    | bool b =>
      obtain rfl := hV.head
      clear ih hV hok hn hS hb0 hsz0 E0
      cases b
      all_goals
        refine (fromGo_bool _ w).mono ?_
        rintro e w' ⟨rfl, hb⟩
        exact ⟨_, rfl, VR.bool _ _ _, hb⟩
    | num x =>
      have hh := hV.head
      simp only [JHead] at hh
      rw [JW] at hok
      simp only [J.half] at hok
      obtain ⟨⟨o1, o2, o3⟩, o4⟩ := hok
      clear ih hV hn o4
      by_cases he : x % 2 = 0
      · rw [if_pos he] at hh
        subst hh
        refine (fromGo_int (x / 2) w (by omega) (by omega)).mono ?_
        rintro e w' ⟨rfl, hb⟩
        rw [show 2 * (x / 2) = x by omega]
        exact ⟨_, rfl, VR.num _ _ _, hb⟩
      · rw [if_neg he] at hh
        subst hh
        have x0 : x ≠ 0 := by omega
        have x1 : -9007199254740992 < x := by omega
        have x2 : x < 9007199254740992 := by omega
        have hop : ∀ t w, (binOp .mul t (.float .f64 4611686018427387904) (.float .f64 (fb x))).run Tryz.prog w = .ok (.float .f64 (FloatKind.f64.nearest x)) w := fun t w => run_float_arith w .mul t .f64 _ _ _ (two_half x0 x1 x2)
        have H := Lib.hid fun w' => half_whole x0 x1 x2 w'
        have HB0 := Lib.hid hb0; have Z0 := Lib.hid hsz0
        clear he o1 o2 o3 x0 x1 x2 hb0 hS hsz0
        generalize FloatKind.f64.nearest x = X at *
        generalize fb x = Y at *
        unfold VC.nil VC.arr at *
        unfold numVC VC.val VC.arr VC.nil at H
        go_enter Tryz.func31, Tryz.ntmps31
        go_wp2_with (simp only [hop])
        refine (H.out _).mono ?_
        rintro e w1 ⟨rfl, hb1⟩
        have x0 := E0.out.below hb1 (by simp)
        have m0 := x0.c0; have m1 := x0.c1; have m2 := x0.c2; have m3 := x0.c3; have m4 := x0.c4; have m5 := x0.c5; have mf := x0.fr; have lt0 := x0.lt
        have HB1 := Lib.hid hb1
        simp only at m0 m1 m2 m3 m4 m5
        clear x0 hb1
        go_wp2_with fail
        refine bodyPost_ret (v := .tuple #[.agg #[.int .i64 3, .int .i64 x, .string ByteArray.empty, .slice none 0 0, .slice none 0 0, .slice none 0 0], .bool true]) (by simp [results, Tryz.results31, go_sem, m0, m1, m2, m3, m4, m5]) rfl ?_
        show FromGoPost w (.num x) (.returned (.tuple #[VC.val (numVC x), .bool true])) (valStored w1 w.heap.size (numVC x))
        exact ⟨_, rfl, VR.num _ _ _, valStored_below (HB0.out.trans (HB1.out.mono HB0.out.size)) (Nat.le_refl _)⟩
    | str s =>
      obtain rfl := hV.head
      clear ih hV hok hn hS hb0 hsz0 E0
      go_enter Tryz.func31, Tryz.ntmps31
      go_wp2_with fail
      exact bodyPost_ret (v := .tuple #[.agg #[.int .i64 4, .int .i64 0, .string s, .slice none 0 0, .slice none 0 0, .slice none 0 0], .bool true]) (by simp [results, Tryz.results31, go_sem]) rfl ⟨{VC.nil with k := 4, s := s}, rfl, VR.str _ _ _, (Below.refl _ _).alloc (Nat.le_refl _) _⟩
    | arr l =>
      obtain ⟨a, cap, rfl, hel⟩ := hV.arr
      rw [JW] at hok
      have L := listFromGo_any (S := S) (l := l) (a := a) (cap := cap) (w := w.alloc (.cells VC.nil.arr 26)) hok.2.1 (fun b h => by have := hS b h; omega)
        (fun i hi => by
          obtain ⟨b, o, x, h1, h2, h3, h4⟩ := hel i hi
          exact ⟨b, o, x, h1, h2, (hb0.cell (p := ⟨b, o + i, none⟩) (hS b h2)).trans h3, h4.go (fun b h => hb0.block b (hS b h)) (fun _ h => h)⟩)
        (fun i hi x w' S' hx hS' => ih l[i] x w' S' (by have := sizeOf_list (.arr l) (i := i) hi; simp only [J.list] at this; omega) (hok.2.2.2.1 i hi) hx hS')
      have LL := Lib.hid L; have HB0 := Lib.hid hb0; have Z0 := Lib.hid hsz0
      clear ih hV hok hn L hb0 hel hS hsz0
      unfold VC.nil VC.arr at *
      go_enter Tryz.func31, Tryz.ntmps31
      go_wp2_with fail
      refine LL.out.mono ?_
      rintro e w1 ⟨c, rfl, hV, hb1⟩
      have x0 := E0.out.below hb1 (by simp)
      have m0 := x0.c0; have m1 := x0.c1; have m2 := x0.c2; have m3 := x0.c3; have m4 := x0.c4; have m5 := x0.c5; have mf := x0.fr; have lt0 := x0.lt
      have HB1 := Lib.hid hb1; have HV := Lib.hid hV
      simp only at m0 m1 m2 m3 m4 m5
      clear x0 hb1 hV
      obtain ⟨k9, h9, s9, la9, ll9, lc9, ka9, kl9, kc9, va9, vl9, vc9⟩ := c
      unfold VC.val VC.arr
      go_wp2_with fail
      refine bodyPost_ret (v := .tuple #[.agg #[.int .i64 k9, .int .i64 h9, .string s9, .slice la9 ll9 lc9, .slice ka9 kl9 kc9, .slice va9 vl9 vc9], .bool true]) (by simp [results, Tryz.results31, go_sem, m0, m1, m2, m3, m4, m5]) rfl ?_
      show FromGoPost w (.arr l) (.returned (.tuple #[VC.val ⟨k9, h9, s9, la9, ll9, lc9, ka9, kl9, kc9, va9, vl9, vc9⟩, .bool true])) (valStored w1 w.heap.size ⟨k9, h9, s9, la9, ll9, lc9, ka9, kl9, kc9, va9, vl9, vc9⟩)
      exact ⟨_, rfl, HV.out.stored (by simp) (by simp), valStored_below (HB0.out.trans (HB1.out.mono HB0.out.size)) (Nat.le_refl _)⟩
    | obj m =>
      obtain ⟨b, mv, rfl, hbS, hM, hp, hel⟩ := hV.obj
      rw [JW] at hok
      have L := mapFromGo_any (S := S) (m := m) (b := b) (mv := mv) (w := w.alloc (.cells VC.nil.arr 26)) hok.2.2.1 (fun b h => by have := hS b h; omega) hok.2.2.2.2.2.1 hok.2.2.2.2.1 hbS (hM.same (hb0.block b (hS b hbS))) hp
        (fun i hi => by
          obtain ⟨x, h1, h2⟩ := hel i hi
          exact ⟨x, h1, h2.go (fun b h => hb0.block b (hS b h)) (fun _ h => h)⟩)
        (fun i hi x w' S' hx hS' => ih m[i].2 x w' S' (by have := sizeOf_ents (.obj m) (i := i) hi; simp only [J.ents] at this; omega) (hok.2.2.2.2.2.2 i hi) hx hS')
      have LL := Lib.hid L; have HB0 := Lib.hid hb0; have Z0 := Lib.hid hsz0
      clear ih hV hok hn L hb0 hel hS hsz0 hM hp
      unfold VC.nil VC.arr at *
      go_enter Tryz.func31, Tryz.ntmps31
      go_wp2_with fail
      refine LL.out.mono ?_
      rintro e w1 ⟨c, rfl, hV, hb1⟩
      have x0 := E0.out.below hb1 (by simp)
      have m0 := x0.c0; have m1 := x0.c1; have m2 := x0.c2; have m3 := x0.c3; have m4 := x0.c4; have m5 := x0.c5; have mf := x0.fr; have lt0 := x0.lt
      have HB1 := Lib.hid hb1; have HV := Lib.hid hV
      simp only at m0 m1 m2 m3 m4 m5
      clear x0 hb1 hV
      obtain ⟨k9, h9, s9, la9, ll9, lc9, ka9, kl9, kc9, va9, vl9, vc9⟩ := c
      unfold VC.val VC.arr
      go_wp2_with fail
      refine bodyPost_ret (v := .tuple #[.agg #[.int .i64 k9, .int .i64 h9, .string s9, .slice la9 ll9 lc9, .slice ka9 kl9 kc9, .slice va9 vl9 vc9], .bool true]) (by simp [results, Tryz.results31, go_sem, m0, m1, m2, m3, m4, m5]) rfl ?_
      show FromGoPost w (.obj m) (.returned (.tuple #[VC.val ⟨k9, h9, s9, la9, ll9, lc9, ka9, kl9, kc9, va9, vl9, vc9⟩, .bool true])) (valStored w1 w.heap.size ⟨k9, h9, s9, la9, ll9, lc9, ka9, kl9, kc9, va9, vl9, vc9⟩)
      exact ⟨_, rfl, HV.out.stored (by simp) (by simp), valStored_below (HB0.out.trans (HB1.out.mono HB0.out.size)) (Nat.le_refl _)⟩

/-- A value of the package is no error. -/
theorem JR.noError {w : World} {S : Nat → Prop} {j : J} {v : Value} (h : JR w S j v) (w' : World) : (Instr.typeAssert v 20 65 true).run Tryz.prog w' = .ok (.tuple #[.nilIface, .bool false]) w' := by
  have h := h.head
  cases j with
  | null => obtain rfl := h; exact as_nil_error w'
  | bool b => obtain rfl := h; exact as_bool_error _ w'
  | num x =>
    simp only [JHead] at h
    by_cases he : x % 2 = 0
    · rw [if_pos he] at h
      subst h
      exact as_int_error _ w'
    · rw [if_neg he] at h
      subst h
      exact as_float_error _ w'
  | str s => obtain rfl := h; exact as_string_error _ w'
  | arr l => obtain ⟨a, cap, rfl⟩ := h; exact as_anys_error _ w'
  | obj m => obtain ⟨b, rfl⟩ := h; exact as_map_error _ w'

/-- What result leaves of a value. -/
def ResultPost (w : World) (j : J) (e : Ending) (w' : World) : Prop := ∃ c, e = .returned (resVal c 0) ∧ VR w' (New w.heap.size w') j c ∧ Below w.heap.size w w'

theorem result_any (j : J) (v : Value) (w : World) (S : Nat → Prop) (hj : JW j) (hV : JR w S j v) (hS : ∀ b, S b → b < w.heap.size) : Calls Tryz.prog 13 #[v] w (ResultPost w j) := by
  have hne := fun w' => hV.noError w'
  have form := hV.form
  have hb0 : Below w.heap.size w (w.alloc (.cells #[.int .i64 0, .int .i64 0, .string ByteArray.empty, .slice none 0 0, .slice none 0 0, .slice none 0 0, .int .i64 0] 30)) := (Below.refl _ _).alloc (Nat.le_refl _) _
  have F := Lib.hid (fromGo_any (SizeOf.sizeOf j) j v (w.alloc (.cells #[.int .i64 0, .int .i64 0, .string ByteArray.empty, .slice none 0 0, .slice none 0 0, .slice none 0 0, .int .i64 0] 30)) S (Nat.le_refl _) hj
    (hV.go (fun b h => hb0.block b (hS b h)) (fun _ h => h)) (fun b h => Nat.lt_of_lt_of_le (hS b h) hb0.size))
  have RB := Lib.hid (resbox_alloc w VC.nil 0)
  have HB0 := Lib.hid hb0
  clear hV hS hj hb0
  unfold VC.nil at RB
  rcases form with rfl | ⟨t, u, rfl⟩
  all_goals
    go_enter Tryz.func13, Tryz.ntmps13
    go_wp2_with (simp only [hne])
    refine F.out.mono ?_
    rintro e w1 ⟨c, rfl, hV, hb1⟩
    have rb := RB.out.below hb1 (by simp)
    have q0 := rb.c0; have q1 := rb.c1; have q2 := rb.c2; have q3 := rb.c3; have q4 := rb.c4; have q5 := rb.c5; have q6 := rb.c6; have qf := rb.fr
    have lt := rb.lt
    have HB1 := Lib.hid hb1; have HV := Lib.hid hV
    clear rb hb1 hV
    obtain ⟨k9, h9, s9, la9, ll9, lc9, ka9, kl9, kc9, va9, vl9, vc9⟩ := c
    unfold VC.val VC.arr
    go_wp2_with fail
    refine bodyPost_ret (v := .agg #[.int .i64 k9, .int .i64 h9, .string s9, .slice la9 ll9 lc9, .slice ka9 kl9 kc9, .slice va9 vl9 vc9, .int .i64 0]) (by simp [results, Tryz.results13, go_sem, q0, q1, q2, q3, q4, q5, q6, lt]) rfl ?_
    have sz := HB1.out.size
    simp only [World.size_alloc] at sz
    have hr : Below w.heap.size w (resStored w1 w.heap.size ⟨k9, h9, s9, la9, ll9, lc9, ka9, kl9, kc9, va9, vl9, vc9⟩ 0) := resStored_below (HB0.out.trans (HB1.out.mono HB0.out.size)) (Nat.le_refl _)
    have hz : (resStored w1 w.heap.size ⟨k9, h9, s9, la9, ll9, lc9, ka9, kl9, kc9, va9, vl9, vc9⟩ 0).heap.size = w1.heap.size := resStored_size
    refine ⟨⟨k9, h9, s9, la9, ll9, lc9, ka9, kl9, kc9, va9, vl9, vc9⟩, rfl, ?_, ?_⟩
    · show VR ((resStored w1 w.heap.size ⟨k9, h9, s9, la9, ll9, lc9, ka9, kl9, kc9, va9, vl9, vc9⟩ 0).alloc _) (New w.heap.size ((resStored w1 w.heap.size ⟨k9, h9, s9, la9, ll9, lc9, ka9, kl9, kc9, va9, vl9, vc9⟩ 0).alloc _)) j _
      refine HV.out.go (fun b hb => ?_) (fun b hb => ⟨by have := hb.1; simp at this; omega, by rw [World.size_alloc, hz]; have := hb.2; omega⟩)
      rw [Below.heap_alloc _ _ _ (by rw [hz]; exact hb.2)]
      exact resStored_block (by have := hb.1; simp at this; omega)
    · exact hr.alloc (by rw [hz]; omega) _
end Go.Proofs.YtfgmegfgifeaiaaGreatDoor

namespace Go.Proofs.YtfgmegfgifeaiaaGreatDoor
open Go.RowKit

@[go_sem] theorem as_f0err_error (v : Value) (w : World) : (Instr.typeAssert (.iface 86 v) 20 65 true).run Tryz.prog w = .ok (.tuple #[.iface 86 v, .bool true]) w := run_typeAssert_hasB Tryz.underlying65 (by kernel_rfl) v 20 w

/-- What a function of the package gives: an error, or a value in blocks of S and new memory. -/
def GIn (S : Nat → Prop) (w : World) (o : Out) (e : Ending) (w' : World) : Prop :=
  match o with
  | .silent => True
  | .raises => ∃ v, e = .returned v ∧ IsErr v ∧ Below w.heap.size w w'
  | .value j => ∃ v, e = .returned v ∧ JR w' (fun b => S b ∨ New w.heap.size w' b) j v ∧ Below w.heap.size w w'

/-- Values of the package in a row that a call owns, each a reading in blocks of S. -/
def ARow (lo : Nat) (S : Nat → Prop) (l : List J) (v : Value) (xs : List Value) (w : World) : Prop :=
  w.ownsRow lo 20 1 v xs.length xs ∧ xs.length = l.length ∧ ∀ i (_ : i < l.length) (h : i < xs.length), JR w S l[i] xs[i]

theorem ARow.jr {lo : Nat} {S : Nat → Prop} {l : List J} {a : Option Addr} {n cap : Nat} {xs : List Value} {w : World} (h : ARow lo S l (.slice a n cap) xs w) (hn : n = l.length) :
    JR w (fun b => S b ∨ New lo w b) (.arr l) (.iface 58 (.slice a n cap)) := by
  subst hn
  refine JR.of_arr fun i hi => ?_
  have hx : i < xs.length := by have := h.2.1; omega
  obtain ⟨g, cap', e, hg, hlt⟩ := h.1.form (by omega)
  have e' := e
  simp only [Value.slice.injEq] at e'
  obtain ⟨rfl, _, rfl⟩ := e'
  have hc := h.1.cells (g := g) rfl i xs[i] (by simp [hx])
  rw [addr_add] at hc
  exact ⟨g, 0, xs[i], rfl, Or.inr ⟨hg, hlt⟩, hc, (h.2.2 i hi hx).mono (fun b hb => Or.inl hb)⟩

theorem result_in {o : Out} (hok : ∀ j, o = .value j → JW j) (ho : o ≠ .silent) {w w1 : World} {e : Ending} {S : Nat → Prop} (h : GIn S w o e w1) (hS : ∀ b, S b → b < w.heap.size) :
    ∃ v, e = .returned v ∧ Below w.heap.size w w1 ∧ Calls Tryz.prog 13 #[v] w1 fun e w' => ∃ c, e = .returned (resVal c o.how) ∧ (∀ j, o = .value j → VR w' (New w1.heap.size w') j c) ∧ Below w1.heap.size w1 w' := by
  cases o with
  | silent => exact absurd rfl ho
  | raises =>
    obtain ⟨v, rfl, hv, hb⟩ := h
    refine ⟨_, rfl, hb, (result_err v w1 hv).mono ?_⟩
    rintro e w' ⟨rfl, hb1⟩
    exact ⟨_, rfl, (fun j hj => by cases hj), hb1⟩
  | value j =>
    obtain ⟨v, rfl, hG, hb⟩ := h
    refine ⟨_, rfl, hb, (result_any j v w1 _ (hok j rfl) hG (fun b hb' => ?_)).mono ?_⟩
    · rcases hb' with h | h
      · exact Nat.lt_of_lt_of_le (hS b h) hb.size
      · exact h.2
    rintro e w' ⟨c, rfl, hV, hb1⟩
    exact ⟨c, rfl, (fun j hj => by cases hj; exact hV), hb1⟩

/-- A door's result, stored. -/
theorem door_out {o : Out} {w w4 : World} {N lo : Nat} {c : VC} (hz : o ≠ .silent) (hb : Below w.heap.size w w4) (hN : w.heap.size ≤ N) (hlo : N < lo) (hV : ∀ j, o = .value j → VR w4 (New lo w4) j c) :
    DoorOut w o (.returned (resVal c o.how)) (resStored w4 N c o.how) := by
  have hfin : Below w.heap.size w (resStored w4 N c o.how) := resStored_below hb hN
  have hV3 : ∀ j', o = .value j' → VR (resStored w4 N c o.how) (New w.heap.size (resStored w4 N c o.how)) j' c :=
    fun j' hj => (hV j' hj).go (fun b hb => resStored_block (by have := hb.1; omega)) (fun b hb => ⟨by have := hb.1; omega, by rw [resStored_size]; exact hb.2⟩)
  cases o with
  | silent => exact absurd rfl hz
  | raises => exact ⟨_, rfl, hfin⟩
  | value j' => exact ⟨_, rfl, hV3 j' rfl, hfin⟩
end Go.Proofs.YtfgmegfgifeaiaaGreatDoor

namespace Go.Proofs.YtfgmegfgifeaiaaGreatDoor
open Go.RowKit

/-- A made row of which the first m have been filled. -/
def fillRow (f : Nat → Value) (m n : Nat) : List Value := (List.range n).map fun i => if i < m then f i else .nilIface
theorem fillRow_len (f : Nat → Value) (m n : Nat) : (fillRow f m n).length = n := by simp [fillRow]
theorem fillRow_zero (f : Nat → Value) (n : Nat) : fillRow f 0 n = List.replicate n .nilIface := by
  apply List.ext_getElem
  · simp [fillRow]
  · intro i h1 h2; simp [fillRow]
theorem fillRow_set (f : Nat → Value) {m n : Nat} : (fillRow f m n).set m (f m) = fillRow f (m + 1) n := by
  apply List.ext_getElem
  · simp [fillRow]
  · intro i h1 h2
    rw [List.getElem_set]
    simp only [fillRow, List.getElem_map, List.getElem_range]
    by_cases e : m = i
    · subst e; simp
    · simp only [e, if_false]
      by_cases h3 : i < m
      · simp [h3, show i < m + 1 by omega]
      · simp [h3, show ¬ i < m + 1 by omega]
theorem fillRow_get (f : Nat → Value) {m n i : Nat} (h : i < m) (hi : i < (fillRow f m n).length) : (fillRow f m n)[i] = f i := by
  simp [fillRow, h]

/-- A row that is filled reads as an array. -/
theorem JR.filled {w : World} {S : Nat → Prop} {N cap : Nat} {f : Nat → Value} {l : List J} (hA : Arr w N 20 (fillRow f l.length l.length)) (hS : S N) (h : ∀ i (_ : i < l.length), JR w S l[i] (f i)) :
    JR w S (.arr l) (.iface 58 (.slice (some ⟨N, 0, none⟩) l.length cap)) := by
  refine JR.of_arr fun i hi => ⟨N, 0, f i, rfl, hS, ?_, h i hi⟩
  have h1 : i < (fillRow f l.length l.length).length := by rw [fillRow_len]; exact hi
  have := hA.cell h1
  rw [fillRow_get f hi h1] at this
  simpa using this
end Go.Proofs.YtfgmegfgifeaiaaGreatDoor

namespace Go.Proofs.YtfgmegfgifeaiaaGreatDoor
open Go.RowKit

/-- The keys of an array or object, and its values. -/
def keysJ : J → List J
  | .arr l => (List.range l.length).map fun i : Nat => .num (2 * (i : Int))
  | .obj m => m.map fun p => .str p.1
  | _ => []
def valsJ : J → List J
  | .arr l => l
  | .obj m => m.map (·.2)
  | _ => []
/-- An array or an object. -/
def Holds : J → Prop | .arr _ => True | .obj _ => True | _ => False

theorem keys_vals_len (j : J) : (keysJ j).length = (valsJ j).length := by cases j <;> simp [keysJ, valsJ]
theorem vals_len {j : J} (hj : JOK j) : (valsJ j).length ≤ 400 := by
  rw [JOK] at hj
  cases j with
  | arr l => exact hj.2.2.1
  | obj m => have := hj.2.2.2.1; simpa [valsJ, J.ents] using this
  | _ => simp [valsJ]

theorem JOK.leafs {j : J} (hh : (-18014398509481984 ≤ j.half ∧ j.half ≤ 18014398509481984 ∧ (j.half % 2 = 0 ∨ (-9007199254740992 < j.half ∧ j.half < 9007199254740992)))) (ht : j.text.size ≤ 1000000) (hl : j.list = []) (he : j.ents = []) : JOK j := by
  rw [JOK]
  refine ⟨hh, ht, by simp [hl], by simp [he], fun i hi => ?_, fun i hi => ?_, fun i hi => ?_, fun i hi => ?_⟩
  · simp [hl] at hi
  · simp [he] at hi
  · simp [he] at hi
  · simp [he] at hi
theorem JOK.list_of {l : List J} (hl : l.length ≤ 400) (h : ∀ x ∈ l, JOK x) : JOK (.arr l) := by
  rw [JOK]
  refine ⟨by simp [J.half], by simp [J.text, ByteArray.size], hl, by simp [J.ents], fun i hi => h _ (List.getElem_mem _), fun i hi => ?_, fun i hi => ?_, fun i hi => ?_⟩
  · simp [J.ents] at hi
  · simp [J.ents] at hi
  · simp [J.ents] at hi

theorem keys_ok {j : J} (hj : JOK j) : ∀ x ∈ keysJ j, JOK x := by
  intro x hx
  cases j with
  | arr l =>
    have hl : l.length ≤ 400 := by rw [JOK] at hj; exact hj.2.2.1
    obtain ⟨i, hi, rfl⟩ := List.mem_map.1 hx
    have hi' := List.mem_range.1 hi
    exact .leafs (by simp only [J.half]; omega) (by simp [J.text, ByteArray.size]) rfl rfl
  | obj m =>
    rw [JOK] at hj
    obtain ⟨p, hp, rfl⟩ := List.mem_map.1 hx
    obtain ⟨i, hi, rfl⟩ := List.getElem_of_mem hp
    exact .leafs (by simp [J.half]) (by have := hj.2.2.2.2.2.1 i hi; simp only [J.ents] at this; simp only [J.text]; omega) rfl rfl
  | _ => cases hx
theorem vals_ok {j : J} (hj : JOK j) : ∀ x ∈ valsJ j, JOK x := by
  intro x hx
  cases j with
  | arr l => obtain ⟨i, hi, rfl⟩ := List.getElem_of_mem hx; exact hj.list hi
  | obj m =>
    obtain ⟨p, hp, rfl⟩ := List.mem_map.1 hx
    obtain ⟨i, hi, rfl⟩ := List.getElem_of_mem hp
    exact hj.ents hi
  | _ => cases hx
theorem keys_all {j : J} (hj : JOK j) : JOK (.arr (keysJ j)) := .list_of (by rw [keys_vals_len]; exact vals_len hj) (keys_ok hj)
theorem vals_all {j : J} (hj : JOK j) : JOK (.arr (valsJ j)) := .list_of (vals_len hj) (vals_ok hj)
theorem len_ok {j : J} (hj : JOK j) : JOK (.num (2 * ((valsJ j).length : Int))) := by
  have := vals_len hj
  exact .leafs (by simp only [J.half]; omega) (by simp [J.text, ByteArray.size]) rfl rfl
end Go.Proofs.YtfgmegfgifeaiaaGreatDoor

namespace Go.Proofs.YtfgmegfgifeaiaaGreatDoor
open Go.RowKit

/-- A number that is not too great. -/
def NumOk (h : Int) : Prop := -18014398509481984 ≤ h ∧ h ≤ 18014398509481984 ∧ (h % 2 = 0 ∨ (-9007199254740992 < h ∧ h < 9007199254740992))
instance (h : Int) : Decidable (NumOk h) := by unfold NumOk; infer_instance

/-- Is a key ahead of another one? -/
def Lt (a b : ByteArray) : Prop := Op.bytesLess a.toList b.toList = true
instance (a b : ByteArray) : Decidable (Lt a b) := by unfold Lt; infer_instance
theorem Lt.irrefl (a : ByteArray) : ¬ Lt a a := by unfold Lt; rw [less_irrefl]; simp
theorem lt_iff (a b : ByteArray) : Lt a b ↔ a.data.toList < b.data.toList := by
  unfold Lt
  rw [bytesLess_eq, decide_eq_true_eq, ByteArray.toList_eq, ByteArray.toList_eq]
theorem Lt.trans {a b c : ByteArray} (h : Lt a b) (k : Lt b c) : Lt a c := by
  rw [lt_iff] at *; exact List.lt_trans h k
theorem lt_or (a b : ByteArray) : Lt a b ∨ a = b ∨ Lt b a := by
  rw [lt_iff, lt_iff]
  rcases Decidable.em (a.data.toList < b.data.toList) with h | h
  · exact Or.inl h
  · rcases Decidable.em (b.data.toList < a.data.toList) with k | k
    · exact Or.inr (Or.inr k)
    · refine Or.inr (Or.inl ?_)
      have := List.le_antisymm (List.not_lt.1 k) (List.not_lt.1 h)
      cases a; cases b
      simp at this
      rw [this]

/-- Entries whose keys rise. -/
def Rises (m : List (ByteArray × J)) : Prop := m.Pairwise fun p q => Lt p.1 q.1
theorem Rises.of {m : List (ByteArray × J)} (h : ∀ i (_ : i + 1 < m.length), Op.bytesLess m[i].1.toList m[i + 1].1.toList = true) : Rises m := by
  unfold Rises
  rw [List.pairwise_iff_getElem]
  intro i j hi hj hij
  have h2 := rising (ks := m.map (·.1)) (by simpa using h) (j - i - 1) i (by simp; omega)
  have ej : i + (j - i - 1) + 1 = j := by omega
  simp only [ej, List.getElem_map] at h2
  exact h2
theorem Rises.adj {m : List (ByteArray × J)} (h : Rises m) : ∀ i (_ : i + 1 < m.length), Op.bytesLess m[i].1.toList m[i + 1].1.toList = true := fun i hi => by
  unfold Rises at h
  rw [List.pairwise_iff_getElem] at h
  exact h i (i + 1) (by omega) hi (by omega)
theorem Rises.nodup {m : List (ByteArray × J)} (h : Rises m) : (m.map (·.1)).Nodup := by
  unfold Rises at h
  refine List.pairwise_map.2 (h.imp fun {p q} hpq e => ?_)
  rw [e] at hpq
  exact Lt.irrefl _ hpq

/-- An object with a value at a key. -/
def withJ (m : List (ByteArray × J)) (k : ByteArray) (v : J) : List (ByteArray × J) := m.filter (fun p => decide (Lt p.1 k)) ++ (k, v) :: m.filter (fun p => decide (Lt k p.1))
theorem withJ_mem {m : List (ByteArray × J)} {k : ByteArray} {v : J} {p : ByteArray × J} : p ∈ withJ m k v ↔ p = (k, v) ∨ (p ∈ m ∧ p.1 ≠ k) := by
  simp only [withJ, List.mem_append, List.mem_filter, decide_eq_true_eq, List.mem_cons]
  constructor
  · rintro (⟨h1, h2⟩ | rfl | ⟨h1, h2⟩)
    · exact Or.inr ⟨h1, fun e => by rw [e] at h2; exact Lt.irrefl _ h2⟩
    · exact Or.inl rfl
    · exact Or.inr ⟨h1, fun e => by rw [e] at h2; exact Lt.irrefl _ h2⟩
  · rintro (rfl | ⟨h1, h2⟩)
    · exact Or.inr (Or.inl rfl)
    · rcases lt_or p.1 k with h | h | h
      · exact Or.inl ⟨h1, h⟩
      · exact absurd h h2
      · exact Or.inr (Or.inr ⟨h1, h⟩)
theorem withJ_rises {m : List (ByteArray × J)} (h : Rises m) (k : ByteArray) (v : J) : Rises (withJ m k v) := by
  unfold withJ Rises
  refine List.pairwise_append.2 ⟨h.filter _, List.pairwise_cons.2 ⟨fun p hp => ?_, h.filter _⟩, fun p hp q hq => ?_⟩
  · simpa using (List.mem_filter.1 hp).2
  · have h1 : Lt p.1 k := by simpa using (List.mem_filter.1 hp).2
    rcases List.mem_cons.1 hq with rfl | hq
    · exact h1
    · exact h1.trans (by simpa using (List.mem_filter.1 hq).2)
theorem filter_two {α : Type} (p q : α → Bool) (hpq : ∀ x, p x = true → q x = false) : ∀ l : List α, (l.filter p).length + (l.filter q).length ≤ l.length
  | [] => by simp
  | x :: l => by
    have ih := filter_two p q hpq l
    cases hp : p x with
    | true => simp [hp, hpq x hp]; omega
    | false => cases hq : q x <;> simp [hp, hq] <;> omega
theorem withJ_len (m : List (ByteArray × J)) (k : ByteArray) (v : J) : (withJ m k v).length ≤ m.length + 1 := by
  have := filter_two (fun p : ByteArray × J => decide (Lt p.1 k)) (fun p => decide (Lt k p.1)) (fun p h => by
    have h1 : Lt p.1 k := by simpa using h
    have : ¬ Lt k p.1 := fun h2 => Lt.irrefl _ (h1.trans h2)
    simpa using this) m
  simp only [withJ, List.length_append, List.length_cons]
  omega

/-- The sum of two objects. -/
def mergeJ (a b : List (ByteArray × J)) : List (ByteArray × J) := b.foldl (fun m p => withJ m p.1 p.2) a
theorem mergeJ_rises {a : List (ByteArray × J)} : ∀ (b : List (ByteArray × J)), Rises a → Rises (mergeJ a b) := by
  intro b
  induction b generalizing a with
  | nil => intro h; exact h
  | cons p b ih => intro h; exact ih (withJ_rises h p.1 p.2)
theorem mergeJ_len : ∀ (b a : List (ByteArray × J)), (mergeJ a b).length ≤ a.length + b.length
  | [], a => by simp [mergeJ]
  | p :: b, a => by
    have := mergeJ_len b (withJ a p.1 p.2)
    have := withJ_len a p.1 p.2
    simp only [mergeJ, List.foldl_cons, List.length_cons] at *
    omega
theorem mergeJ_mem : ∀ (b a : List (ByteArray × J)) {p : ByteArray × J}, (b.map (·.1)).Nodup → (p ∈ mergeJ a b ↔ p ∈ b ∨ (p ∈ a ∧ p.1 ∉ b.map (·.1)))
  | [], a, p, _ => by simp [mergeJ]
  | q :: b, a, p, hn => by
    have hn' := List.nodup_cons.1 (show (q.1 :: b.map (·.1)).Nodup from hn)
    have ih := mergeJ_mem b (withJ a q.1 q.2) (p := p) hn'.2
    have e : mergeJ a (q :: b) = mergeJ (withJ a q.1 q.2) b := rfl
    rw [e, ih, withJ_mem]
    simp only [List.mem_cons, List.map_cons, not_or]
    constructor
    · rintro (h | ⟨h | ⟨h1, h2⟩, h3⟩)
      · exact Or.inl (Or.inr h)
      · exact Or.inl (Or.inl (by rw [h]))
      · exact Or.inr ⟨h1, h2, h3⟩
    · rintro ((rfl | h) | ⟨h1, h2, h3⟩)
      · exact Or.inr ⟨Or.inl rfl, hn'.1⟩
      · exact Or.inl h
      · exact Or.inr ⟨Or.inr ⟨h1, h2⟩, h3⟩

/-- The sum of two values. -/
def plusJ : J → J → Out
  | .null, b => .value b
  | a, .null => .value a
  | .num a, .num b => if NumOk (a + b) then .value (.num (a + b)) else .silent
  | .str a, .str b => .value (.str (a ++ b))
  | .arr a, .arr b => .value (.arr (a ++ b))
  | .obj a, .obj b => .value (.obj (mergeJ a b))
  | _, _ => .raises
/-- The sum of a value and of those of a list, one after the other. -/
def addJ : J → List J → Out
  | a, [] => .value a
  | a, x :: l => match plusJ a x with | .value b => addJ b l | o => o

/-- What is known of a sum so far: its parts and bytes are not too many. -/
structure SumOk (m n : Nat) (a : J) : Prop where
  ok : JOK a
  text : a.text.size ≤ 2000 * m
  list : a.list.length ≤ n
  ents : a.ents.length ≤ n

theorem JOK.obj_of {m : List (ByteArray × J)} (hl : m.length ≤ 400) (hr : Rises m) (h : ∀ p ∈ m, p.1.size ≤ 2000 ∧ JOK p.2) : JOK (.obj m) := by
  rw [JOK]
  refine ⟨by simp [J.half], by simp [J.text, ByteArray.size], by simp [J.list], hl, fun i hi => ?_, fun i hi => (h _ (List.getElem_mem _)).1, fun i hi => hr.adj i hi, fun i hi => (h _ (List.getElem_mem _)).2⟩
  simp [J.list] at hi
theorem JOK.obj_mem {m : List (ByteArray × J)} (h : JOK (.obj m)) : Rises m ∧ ∀ p ∈ m, p.1.size ≤ 2000 ∧ JOK p.2 := by
  rw [JOK] at h
  refine ⟨.of (by simpa [J.ents] using h.2.2.2.2.2.2.1), fun p hp => ?_⟩
  obtain ⟨i, hi, rfl⟩ := List.getElem_of_mem hp
  exact ⟨h.2.2.2.2.2.1 i hi, h.2.2.2.2.2.2.2 i hi⟩
theorem JOK.arr_mem {l : List J} (h : JOK (.arr l)) : ∀ x ∈ l, JOK x := by
  intro x hx
  obtain ⟨i, hi, rfl⟩ := List.getElem_of_mem hx
  exact h.list (j := .arr l) hi
theorem JOK.text_le {j : J} (h : JOK j) : j.text.size ≤ 1000000 := by rw [JOK] at h; exact h.2.1
theorem JOK.half_ok {x : Int} (h : JOK (.num x)) : NumOk x := by rw [JOK] at h; exact h.1

theorem plus_ok {m n : Nat} {a x b : J} (ha : SumOk m n a) (hx : JOK x) (ht : x.text.size ≤ 2000) (hm : m < 400) (hn : n + x.list.length + x.ents.length ≤ 400) (h : plusJ a x = .value b) : SumOk (m + 1) (n + x.list.length + x.ents.length) b := by
  have h1 := ha.text; have h2 := ha.list; have h3 := ha.ents
  have same : SumOk (m + 1) (n + x.list.length + x.ents.length) a := ⟨ha.ok, by omega, by omega, by omega⟩
  have self : SumOk (m + 1) (n + x.list.length + x.ents.length) x := ⟨hx, by omega, by omega, by omega⟩
  cases a with
  | null => cases h; exact self
  | bool c => cases x <;> cases h <;> exact same
  | num c =>
    cases x with
    | null => cases h; exact same
    | num d =>
      simp only [plusJ] at h
      split at h
      · rename_i ho
        cases h
        exact ⟨.leafs ho (by simp [J.text, ByteArray.size]) rfl rfl, by simp [J.text, ByteArray.size], by simp [J.list], by simp [J.ents]⟩
      · cases h
    | _ => cases h
  | str c =>
    cases x with
    | null => cases h; exact same
    | str d =>
      cases h
      simp only [J.text] at h1 ht
      have e : (c ++ d).size = c.size + d.size := ByteArray.size_append
      exact ⟨.leafs (by simp [J.half]) (by simp only [J.text, e]; omega) rfl rfl, by simp only [J.text, e]; omega, by simp [J.list], by simp [J.ents]⟩
    | _ => cases h
  | arr c =>
    cases x with
    | null => cases h; exact same
    | arr d =>
      cases h
      simp only [J.list, J.ents, List.length_nil, Nat.add_zero] at h2 hn ⊢
      refine ⟨.list_of (by simp; omega) (fun y hy => (List.mem_append.1 hy).elim (ha.ok.arr_mem y) (hx.arr_mem y)), by simp [J.text, ByteArray.size], by simp [J.list]; omega, by simp [J.ents]⟩
    | _ => cases h
  | obj c =>
    cases x with
    | null => cases h; exact same
    | obj d =>
      cases h
      simp only [J.list, J.ents, List.length_nil, Nat.add_zero] at h3 hn ⊢
      have hl := mergeJ_len d c
      refine ⟨.obj_of (by omega) (mergeJ_rises d ha.ok.obj_mem.1) (fun p hp => ?_), by simp [J.text, ByteArray.size], by simp [J.list], by simp only [J.ents]; omega⟩
      rcases (mergeJ_mem d c hx.obj_mem.1.nodup).1 hp with h | h
      · exact hx.obj_mem.2 p h
      · exact ha.ok.obj_mem.2 p h.1
    | _ => cases h
end Go.Proofs.YtfgmegfgifeaiaaGreatDoor

namespace Go.Proofs.YtfgmegfgifeaiaaGreatDoor
open Go.RowKit Ieee

@[go_sem] theorem as_berr_error (v : Value) (w : World) : (Instr.typeAssert (.iface 171 v) 20 65 true).run Tryz.prog w = .ok (.tuple #[.iface 171 v, .bool true]) w := run_typeAssert_hasB Tryz.underlying65 (by kernel_rfl) v 20 w

/-- A value of the package, by its kind. -/
inductive Kd where
  | nil
  | bool (b : Bool)
  | int (n : Int)
  | float (X : Nat)
  | str (s : ByteArray)
  | list (a : Option Addr) (n cap : Nat)
  | map (b : Option Nat)
def Kd.val : Kd → Value
  | .nil => .nilIface
  | .bool b => .iface 4 (.bool b)
  | .int n => .iface 3 (.int .i64 n)
  | .float X => .iface 57 (.float .f64 X)
  | .str s => .iface 9 (.string s)
  | .list a n cap => .iface 58 (.slice a n cap)
  | .map b => .iface 61 (.map b)
/-- Two that are added by no law of their own. -/
def Kd.apart : Kd → Kd → Bool
  | .nil, .bool _ => true
  | .nil, .int _ => true
  | .nil, .float _ => true
  | .nil, _ => false
  | _, .nil => false
  | .int _, .int _ => false
  | .int _, .float _ => false
  | .float _, .int _ => false
  | .float _, .float _ => false
  | .str _, .str _ => false
  | .list .., .list .. => false
  | .map _, .map _ => false
  | _, _ => true
/-- What comes of two such. -/
def ApartPost (l r : Kd) (w : World) (e : Ending) (w' : World) : Prop :=
  match l with
  | .nil => e = .returned r.val ∧ w' = w
  | _ => ∃ v, e = .returned v ∧ IsErr v ∧ Below w.heap.size w w'

theorem add7_nil (v : Value) (w : World) : Calls Tryz.prog 140 #[.nilIface, v] w fun e w' => e = .returned v ∧ w' = w := by
  go_enter Tryz.func140, Tryz.ntmps140
  go_wp2_with fail
  go_ret
  exact ⟨rfl, rfl⟩
theorem add7_err (t t' : TypeId) (u u' : Value) (w : World) : Calls Tryz.prog 140 #[.iface t u, .iface t' u'] w fun e w' => ∃ v, e = .returned v ∧ IsErr v ∧ Below w.heap.size w w' := by
  go_enter Tryz.func140, Tryz.ntmps140
  go_wp2_with fail
  go_ret
  exact ⟨_, rfl, ⟨_, _, rfl, as_berr_error _⟩, (Below.refl _ _).alloc (Nat.le_refl _) _⟩
theorem add7_any (l r : Kd) (h : l.apart r = true) (w : World) : Calls Tryz.prog 140 #[l.val, r.val] w (ApartPost l r w) := by
  cases l with
  | nil => exact add7_nil _ w
  | _ =>
    cases r with
    | nil => cases h
    | _ => exact add7_err _ _ _ _ w

set_option maxRecDepth 100000 in
set_option maxHeartbeats 4000000 in
theorem binop_apart (l r : Kd) (h : l.apart r = true) (f2 f3 f4 f5 f6 f7 : Value) (w : World) : Calls Tryz.prog 131 #[l.val, r.val, f2, f3, f4, f5, f6, f7, .func (.func 140) #[] #[]] w (ApartPost l r w) := by
  have A := Lib.hid (add7_any l r h)
  cases l <;> cases r <;> simp only [Kd.apart, Bool.false_eq_true] at h <;> clear h
  all_goals
    unfold Kd.val ApartPost at *
    go_enter Tryz.func131, Tryz.ntmps131
    go_wp2_with fail
    refine (A.out _).mono ?_
    intro e w' hp
    first
      | (obtain ⟨rfl, rfl⟩ := hp
         go_wp2_with fail
         go_ret
         exact ⟨rfl, rfl⟩)
      | (obtain ⟨v, rfl, h1, h2⟩ := hp
         have H1 := Lib.hid h1; have H2 := Lib.hid h2
         clear h1 h2
         go_wp2_with fail
         go_ret
         exact ⟨v, rfl, H1.out, H2.out⟩)
end Go.Proofs.YtfgmegfgifeaiaaGreatDoor

namespace Go.Proofs.YtfgmegfgifeaiaaGreatDoor
open Go.RowKit Ieee

theorem add1_wide (a b : Int) (w : World) (ha : -4503599627370496000 ≤ a ∧ a ≤ 4503599627370496000) (hb : -9007199254740992 ≤ b ∧ b ≤ 9007199254740992) :
    Calls Tryz.prog 132 #[.int .i64 a, .int .i64 b] w fun e w' => e = .returned (.iface 3 (.int .i64 (a + b))) ∧ w' = w := by
  have e1 : wrap64 (a + b) = a + b := by unfold wrap64; omega
  by_cases h0 : 0 ≤ b
  · have h2 : a ≤ a + b := by omega
    clear ha hb
    go_enter Tryz.func132, Tryz.ntmps132
    go_wp2_with (simp only [e1])
    all_goals
      go_ret
      exact ⟨by simp, rfl⟩
  · have h2 : ¬ a ≤ a + b := by omega
    clear ha hb
    go_enter Tryz.func132, Tryz.ntmps132
    go_wp2_with (simp only [e1])
    all_goals
      go_ret
      exact ⟨by simp, rfl⟩
theorem add2_any (X Y Z : Nat) (h : double.add X Y = some Z) (w : World) : Calls Tryz.prog 135 #[.float .f64 X, .float .f64 Y] w fun e w' => e = .returned (.iface 57 (.float .f64 Z)) ∧ w' = w := by
  have hop : ∀ t w, (binOp .add t (.float .f64 X) (.float .f64 Y)).run Tryz.prog w = .ok (.float .f64 Z) w := fun t w => run_float_arith w .add t .f64 _ _ _ h
  clear h
  go_enter Tryz.func135, Tryz.ntmps135
  go_wp2_with (simp only [hop])
  go_ret
  exact ⟨rfl, rfl⟩

set_option maxRecDepth 100000 in
theorem binop_ii (a b : Int) (f3 f4 f5 f6 f7 f8 : Value) (w : World) (ha : -4503599627370496000 ≤ a ∧ a ≤ 4503599627370496000) (hb : -9007199254740992 ≤ b ∧ b ≤ 9007199254740992) :
    Calls Tryz.prog 131 #[.iface 3 (.int .i64 a), .iface 3 (.int .i64 b), .func (.func 132) #[] #[], f3, f4, f5, f6, f7, f8] w fun e w' => e = .returned (.iface 3 (.int .i64 (a + b))) ∧ w' = w := by
  have M := Lib.hid (add1_wide a b w ha hb)
  clear ha hb
  go_enter Tryz.func131, Tryz.ntmps131
  go_wp2_with fail
  refine M.out.mono ?_
  rintro e w' ⟨rfl, rfl⟩
  go_wp2_with fail
  go_ret
  exact ⟨rfl, rfl⟩
set_option maxRecDepth 100000 in
theorem binop_ff (X Y Z : Nat) (h : double.add X Y = some Z) (f2 f4 f5 f6 f7 f8 : Value) (w : World) :
    Calls Tryz.prog 131 #[.iface 57 (.float .f64 X), .iface 57 (.float .f64 Y), f2, .func (.func 135) #[] #[], f4, f5, f6, f7, f8] w fun e w' => e = .returned (.iface 57 (.float .f64 Z)) ∧ w' = w := by
  have M := Lib.hid (add2_any X Y Z h w)
  clear h
  go_enter Tryz.func131, Tryz.ntmps131
  go_wp2_with fail
  refine M.out.mono ?_
  rintro e w' ⟨rfl, rfl⟩
  go_wp2_with fail
  go_ret
  exact ⟨rfl, rfl⟩
set_option maxRecDepth 100000 in
theorem binop_if (a : Int) (Y Z : Nat) (h : double.add (FloatKind.f64.nearest a) Y = some Z) (f2 f4 f5 f6 f7 f8 : Value) (w : World) :
    Calls Tryz.prog 131 #[.iface 3 (.int .i64 a), .iface 57 (.float .f64 Y), f2, .func (.func 135) #[] #[], f4, f5, f6, f7, f8] w fun e w' => e = .returned (.iface 57 (.float .f64 Z)) ∧ w' = w := by
  have M := Lib.hid (add2_any _ Y Z h w)
  clear h
  go_enter Tryz.func131, Tryz.ntmps131
  go_wp2_with fail
  refine M.out.mono ?_
  rintro e w' ⟨rfl, rfl⟩
  go_wp2_with fail
  go_ret
  exact ⟨rfl, rfl⟩
set_option maxRecDepth 100000 in
theorem binop_fi (X : Nat) (b : Int) (Z : Nat) (h : double.add X (FloatKind.f64.nearest b) = some Z) (f2 f4 f5 f6 f7 f8 : Value) (w : World) :
    Calls Tryz.prog 131 #[.iface 57 (.float .f64 X), .iface 3 (.int .i64 b), f2, .func (.func 135) #[] #[], f4, f5, f6, f7, f8] w fun e w' => e = .returned (.iface 57 (.float .f64 Z)) ∧ w' = w := by
  have M := Lib.hid (add2_any X _ Z h w)
  clear h
  go_enter Tryz.func131, Tryz.ntmps131
  go_wp2_with fail
  refine M.out.mono ?_
  rintro e w' ⟨rfl, rfl⟩
  go_wp2_with fail
  go_ret
  exact ⟨rfl, rfl⟩

/-- A number of the package that is c halves. -/
def Kd.is (c : Int) : Kd → Prop
  | .int n => c = 2 * n
  | .float X => Fin64 (double.read X) (hv c)
  | _ => False
/-- Any number, an int within B. -/
def Kd.num (B : Int) : Kd → Prop
  | .int n => -B ≤ n ∧ n ≤ B
  | .float X => NotNaN X
  | _ => False

theorem funcOpAdd_apart (l r : Kd) (h : l.apart r = true) (w : World) : Calls Tryz.prog 108 #[.nilIface, l.val, r.val] w (ApartPost l r w) := by
  have M := Lib.hid fun f2 f3 f4 f5 f6 f7 => binop_apart l r h f2 f3 f4 f5 f6 f7 w
  clear h
  unfold ApartPost at *
  generalize l.val = lv at *
  generalize r.val = rv at *
  cases l
  all_goals
    go_enter Tryz.func108, Tryz.ntmps108
    go_wp2_with fail
    refine (M.out _ _ _ _ _ _).mono ?_
    intro e w' hp
    first
      | (obtain ⟨rfl, rfl⟩ := hp
         go_wp2_with fail
         go_ret
         exact ⟨rfl, rfl⟩)
      | (obtain ⟨v, rfl, h1, h2⟩ := hp
         have H1 := Lib.hid h1; have H2 := Lib.hid h2
         clear h1 h2
         go_wp2_with fail
         go_ret
         exact ⟨v, rfl, H1.out, H2.out⟩)

/-- Two numbers. -/
theorem funcOpAdd_num (l r : Kd) (c B : Int) (hB : 0 ≤ B ∧ B ≤ 4503599627370496000) (hl : l.num B) (hr : r.is c) (hc : Fits53 c) (w : World) :
    Calls Tryz.prog 108 #[.nilIface, l.val, r.val] w fun e w' => w' = w ∧ ∃ k : Kd, e = .returned k.val ∧ k.num (B + 9007199254740992) ∧ ∀ a, l.is a → Fits53 a → Fits53 (a + c) → k.is (a + c) := by
  have close : ∀ k : Kd, (∀ f4 f5 f6 f7 f8, Calls Tryz.prog 131 #[l.val, r.val, .func (.func 132) #[] #[], .func (.func 135) #[] #[], f4, f5, f6, f7, f8] w fun e w' => e = .returned k.val ∧ w' = w) →
      (k.num (B + 9007199254740992)) → (∀ a, l.is a → Fits53 a → Fits53 (a + c) → k.is (a + c)) →
      Calls Tryz.prog 108 #[.nilIface, l.val, r.val] w fun e w' => w' = w ∧ ∃ k : Kd, e = .returned k.val ∧ k.num (B + 9007199254740992) ∧ ∀ a, l.is a → Fits53 a → Fits53 (a + c) → k.is (a + c) := by
    intro k hm h1 h2
    have M := Lib.hid hm; have H1 := Lib.hid h1; have H2 := Lib.hid h2
    clear hm h1 h2 hB hl hr hc
    obtain ⟨kv, hkv⟩ : ∃ kv, kv = k.val := ⟨_, rfl⟩
    have HK := Lib.hid hkv
    rw [← hkv] at M
    clear hkv
    generalize l.val = lv at M ⊢
    generalize r.val = rv at M ⊢
    go_enter Tryz.func108, Tryz.ntmps108
    go_wp2_with fail
    refine (M.out _ _ _ _ _).mono ?_
    rintro e w' ⟨rfl, rfl⟩
    go_wp2_with fail
    go_ret
    exact ⟨rfl, k, congrArg Ending.returned HK.out, H1.out, H2.out⟩
  cases l with
  | int n =>
    cases r with
    | int m =>
      have hm : c = 2 * m := hr
      have hn : -B ≤ n ∧ n ≤ B := hl
      obtain ⟨c1, c2, _⟩ := hc
      refine close (.int (n + m)) (fun f4 f5 f6 f7 f8 => binop_ii n m _ f4 f5 f6 f7 f8 w (by omega) (by omega)) ?_ ?_
      · show -(B + 9007199254740992) ≤ n + m ∧ n + m ≤ B + 9007199254740992
        omega
      · intro a ha _ _
        have ha' : a = 2 * n := ha
        show a + c = 2 * (n + m)
        omega
    | float Y =>
      have hY : Fin64 (double.read Y) (hv c) := hr
      obtain ⟨Z, hZ, hZ2⟩ := add_ok (whole_ok n) hY
      refine close (.float Z) (fun f4 f5 f6 f7 f8 => binop_if n Y Z hZ _ f4 f5 f6 f7 f8 w) hZ2 ?_
      intro a ha hfa hs
      have ha' : a = 2 * n := ha
      obtain ⟨Z', e, h⟩ := add_half (a := a) (b := c) (X := FloatKind.f64.nearest n) (by rw [ha']; exact nearest_whole (by rw [← ha']; exact hfa.fits)) hY hs.fits
      rw [hZ] at e
      cases e
      exact h
    | _ => exact hr.elim
  | float X =>
    have hX : NotNaN X := hl
    cases r with
    | int m =>
      have hm : c = 2 * m := hr
      have hY : Fin64 (double.read (FloatKind.f64.nearest m)) (hv c) := by rw [hm]; exact nearest_whole (by rw [← hm]; exact hc.fits)
      obtain ⟨Z, hZ, hZ2⟩ := add_ok hX hY
      refine close (.float Z) (fun f4 f5 f6 f7 f8 => binop_fi X m Z hZ _ f4 f5 f6 f7 f8 w) hZ2 ?_
      intro a ha hfa hs
      obtain ⟨Z', e, h⟩ := add_half (a := a) (b := c) ha hY hs.fits
      rw [hZ] at e
      cases e
      exact h
    | float Y =>
      have hY : Fin64 (double.read Y) (hv c) := hr
      obtain ⟨Z, hZ, hZ2⟩ := add_ok hX hY
      refine close (.float Z) (fun f4 f5 f6 f7 f8 => binop_ff X Y Z hZ _ f4 f5 f6 f7 f8 w) hZ2 ?_
      intro a ha hfa hs
      obtain ⟨Z', e, h⟩ := add_half (a := a) (b := c) ha hY hs.fits
      rw [hZ] at e
      cases e
      exact h
    | _ => exact hr.elim
  | _ => exact hl.elim
end Go.Proofs.YtfgmegfgifeaiaaGreatDoor

namespace Go.Proofs.YtfgmegfgifeaiaaGreatDoor
open Go.RowKit Ieee

/-- impl.fromGo of any float. -/
theorem fromGo_float {X : Nat} (hX : NotNaN X) (w : World) : Calls Tryz.prog 31 #[.iface 57 (.float .f64 X)] w fun e w' => (∃ c b, e = .returned (.tuple #[VC.val c, .bool b]) ∧ ∀ a, Fin64 (double.read X) (hv a) → Fits53 a → c = numVC a ∧ b = true) ∧ Below w.heap.size w w' := by
  obtain ⟨Z, hZ, hZ2⟩ := two_ok hX
  have hop : ∀ t w, (binOp .mul t (.float .f64 4611686018427387904) (.float .f64 X)).run Tryz.prog w = .ok (.float .f64 Z) w := fun t w => run_float_arith w .mul t .f64 _ _ _ hZ
  have H := Lib.hid (half_ok hZ2)
  have ex : ∀ a, Fin64 (double.read X) (hv a) → Fits53 a → Fin64 (double.read Z) (hv (2 * a)) ∧ Fits (2 * a) ∧ -4611686018427387904 < a ∧ a < 4611686018427387904 := by
    intro a h hf
    obtain ⟨Z', e, h2⟩ := two_mul_half h (Fits53.two hf)
    rw [hZ] at e
    cases e
    obtain ⟨b1, b2, b3⟩ := hf
    exact ⟨h2, Fits53.two ⟨b1, b2, b3⟩, by omega, by omega⟩
  have EX := Lib.hid ex
  clear ex
  have HB0 := Lib.hid (show Below w.heap.size w (w.alloc (.cells VC.nil.arr 26)) from (Below.refl _ _).alloc (Nat.le_refl _) _)
  have E0 := Lib.hid (box_alloc w VC.nil)
  clear hX hZ hZ2
  unfold VC.nil VC.arr at *
  go_enter Tryz.func31, Tryz.ntmps31
  go_wp2_with (simp only [hop])
  refine (H.out _).mono ?_
  rintro e w1 ⟨⟨c, b, rfl, hc⟩, hb1⟩
  have x0 := E0.out.below hb1 (by simp)
  have m0 := x0.c0; have m1 := x0.c1; have m2 := x0.c2; have m3 := x0.c3; have m4 := x0.c4; have m5 := x0.c5; have mf := x0.fr; have lt0 := x0.lt
  have HB1 := Lib.hid hb1; have HC := Lib.hid hc
  simp only at m0 m1 m2 m3 m4 m5
  clear x0 hb1 hc hop
  obtain ⟨k9, h9, s9, la9, ll9, lc9, ka9, kl9, kc9, va9, vl9, vc9⟩ := c
  unfold VC.val VC.arr
  go_wp2_with fail
  refine bodyPost_ret (v := .tuple #[.agg #[.int .i64 k9, .int .i64 h9, .string s9, .slice la9 ll9 lc9, .slice ka9 kl9 kc9, .slice va9 vl9 vc9], .bool b]) (by simp [results, Tryz.results31, go_sem, m0, m1, m2, m3, m4, m5]) rfl ?_
  refine ⟨⟨⟨k9, h9, s9, la9, ll9, lc9, ka9, kl9, kc9, va9, vl9, vc9⟩, b, rfl, fun a h hf => ?_⟩, valStored_below (N := w.heap.size) (c := ⟨k9, h9, s9, la9, ll9, lc9, ka9, kl9, kc9, va9, vl9, vc9⟩) (HB0.out.trans (HB1.out.mono HB0.out.size)) (Nat.le_refl _)⟩
  obtain ⟨h1, h2, h3, h4⟩ := EX.out a h hf
  exact HC.out a h1 h2 h3 h4

/-- impl.result of any number. -/
theorem result_num (k : Kd) (B : Int) (hB : B ≤ 4611686018427387903) (hk : k.num B) (w : World) : Calls Tryz.prog 13 #[k.val] w fun e w' => (∃ c how, e = .returned (resVal c how) ∧ ∀ a, k.is a → Fits53 a → c = numVC a ∧ how = 0) ∧ Below w.heap.size w w' := by
  cases k with
  | int n =>
    have hn : -B ≤ n ∧ n ≤ B := hk
    refine (result_int n w (by omega) (by omega)).mono ?_
    rintro e w' ⟨rfl, hb⟩
    exact ⟨⟨_, _, rfl, fun a (ha : a = 2 * n) _ => ⟨by rw [ha], rfl⟩⟩, hb⟩
  | float X =>
    have F := Lib.hid (fromGo_float hk)
    have RB := Lib.hid (resbox_alloc w VC.nil 0)
    have HB0 := Lib.hid (show Below w.heap.size w (w.alloc (.cells #[.int .i64 0, .int .i64 0, .string ByteArray.empty, .slice none 0 0, .slice none 0 0, .slice none 0 0, .int .i64 0] 30)) from (Below.refl _ _).alloc (Nat.le_refl _) _)
    clear hB hk
    unfold VC.nil at RB
    unfold Kd.val
    go_enter Tryz.func13, Tryz.ntmps13
    go_wp2_with fail
    refine (F.out _).mono ?_
    rintro e w1 ⟨⟨c, b, rfl, hc⟩, hb1⟩
    have rb := RB.out.below hb1 (by simp)
    have q0 := rb.c0; have q1 := rb.c1; have q2 := rb.c2; have q3 := rb.c3; have q4 := rb.c4; have q5 := rb.c5; have q6 := rb.c6; have qf := rb.fr
    have lt := rb.lt
    have HB1 := Lib.hid hb1; have HC := Lib.hid hc
    clear rb hb1 hc
    obtain ⟨k9, h9, s9, la9, ll9, lc9, ka9, kl9, kc9, va9, vl9, vc9⟩ := c
    unfold VC.val VC.arr
    have sz := HB1.out.size
    simp only [World.size_alloc] at sz
    cases b
    · go_wp2_with fail
      refine bodyPost_ret (v := .agg #[.int .i64 0, .int .i64 0, .string ByteArray.empty, .slice none 0 0, .slice none 0 0, .slice none 0 0, .int .i64 3]) (by simp [results, Tryz.results13, go_sem, q0, q1, q2, q3, q4, q5, q6, lt]; rfl) rfl ?_
      have hr : Below w.heap.size w (resStored w1 w.heap.size VC.nil 3) := resStored_below (HB0.out.trans (HB1.out.mono HB0.out.size)) (Nat.le_refl _)
      refine ⟨⟨VC.nil, 3, rfl, fun a h hf => by have := (HC.out a h hf).2; cases this⟩, ?_⟩
      exact hr.alloc (by rw [resStored_size]; omega) _
    · go_wp2_with fail
      refine bodyPost_ret (v := .agg #[.int .i64 k9, .int .i64 h9, .string s9, .slice la9 ll9 lc9, .slice ka9 kl9 kc9, .slice va9 vl9 vc9, .int .i64 0]) (by simp [results, Tryz.results13, go_sem, q0, q1, q2, q3, q4, q5, q6, lt]) rfl ?_
      have hr : Below w.heap.size w (resStored w1 w.heap.size ⟨k9, h9, s9, la9, ll9, lc9, ka9, kl9, kc9, va9, vl9, vc9⟩ 0) := resStored_below (HB0.out.trans (HB1.out.mono HB0.out.size)) (Nat.le_refl _)
      refine ⟨⟨⟨k9, h9, s9, la9, ll9, lc9, ka9, kl9, kc9, va9, vl9, vc9⟩, 0, rfl, fun a h hf => ⟨(HC.out a h hf).1, rfl⟩⟩, ?_⟩
      exact hr.alloc (by rw [resStored_size]; omega) _
  | _ => exact hk.elim
end Go.Proofs.YtfgmegfgifeaiaaGreatDoor
