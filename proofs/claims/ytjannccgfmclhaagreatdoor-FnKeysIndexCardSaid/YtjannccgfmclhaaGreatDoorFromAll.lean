/- impl.fromGo and impl.result of every right JSON value, as the package has it. -/
import Derived.Test.YtjannccgfmclhaaGreatDoorHalf
import Derived.Test.YtjannccgfmclhaaGreatDoorMapFromGo
import Derived.Test.YtjannccgfmclhaaGreatDoorTypes
namespace Go.Proofs.YtjannccgfmclhaaGreatDoor
open Go.RowKit

/-- A right JSON value, of whatever size is met. -/
def JW (j : J) : Prop :=
  (-18014398509481984 ≤ j.half ∧ j.half ≤ 18014398509481984 ∧ (j.half % 2 = 0 ∨ (-9007199254740992 < j.half ∧ j.half < 9007199254740992))) ∧
    j.list.length ≤ 1000000 ∧ j.ents.length ≤ 1000000 ∧ (∀ i (_ : i < j.list.length), JW j.list[i]) ∧ (∀ i (_ : i < j.ents.length), j.ents[i].1.size ≤ 1000000) ∧
    (∀ i (_ : i + 1 < j.ents.length), Op.bytesLess j.ents[i].1.toList j.ents[i + 1].1.toList = true) ∧ ∀ i (_ : i < j.ents.length), JW j.ents[i].2
termination_by SizeOf.sizeOf j
decreasing_by
  · exact sizeOf_list j ‹_›
  · exact sizeOf_ents j ‹_›

theorem JOK.jw : ∀ (n : Nat) {j : J}, SizeOf.sizeOf j ≤ n → JOK j → JW j
  | 0, j, hn, _ => by cases j <;> simp at hn
  | n + 1, j, hn, h => by
    rw [JOK] at h
    rw [JW]
    obtain ⟨h1, _, h3, h4, h5, h6, h7, h8⟩ := h
    exact ⟨h1, by omega, by omega, fun i hi => JOK.jw n (by have := sizeOf_list j hi; omega) (h5 i hi), fun i hi => by have := h6 i hi; omega, h7, fun i hi => JOK.jw n (by have := sizeOf_ents j hi; omega) (h8 i hi)⟩

theorem VR.str (w : World) (S : Nat → Prop) (s : ByteArray) : VR w S (.str s) {VC.nil with k := 4, s := s} := by
  rw [VR]
  refine ⟨⟨rfl, rfl, rfl, rfl, rfl, rfl⟩, fun i hi => ?_, fun i hi => ?_, fun i hi => ?_⟩
  · simp [J.list] at hi
  · simp [J.ents] at hi
  · simp [J.ents] at hi
theorem VR.null (w : World) (S : Nat → Prop) : VR w S .null VC.nil := by
  rw [VR]
  refine ⟨⟨rfl, rfl, rfl, rfl, rfl, rfl⟩, fun i hi => ?_, fun i hi => ?_, fun i hi => ?_⟩
  · simp [J.list] at hi
  · simp [J.ents] at hi
  · simp [J.ents] at hi

set_option maxRecDepth 100000 in
set_option maxHeartbeats 2000000 in
theorem fromGo_any (n : Nat) : ∀ (j : J) (v : Value) (w : World) (S : Nat → Prop), SizeOf.sizeOf j ≤ n → JW j → JR w S j v → (∀ b, S b → b < w.heap.size) → Calls Tryz.prog 27 #[v] w (FromGoPost w j) := by
  induction n with
  | zero => intro j v w S hn; cases j <;> simp at hn
  | succ n ih =>
    intro j v w S hn hok hV hS
    have hb0 : Below w.heap.size w (w.alloc (.cells VC.nil.arr 26)) := (Below.refl _ _).alloc (Nat.le_refl _) _
    have E0 := Lib.hid (box_alloc w VC.nil)
    have hsz0 : (w.alloc (.cells VC.nil.arr 26)).heap.size = w.heap.size + 1 := by simp
    cases j with
    | null =>
      obtain rfl := hV.head
      clear ih hV hok hn hS hb0 hsz0 E0
      go_enter Tryz.func27, Tryz.ntmps27
      go_wp2_with fail
      exact bodyPost_ret (v := .tuple #[VC.nil.val, .bool true]) (by simp [results, Tryz.results27, go_sem]; rfl) rfl ⟨_, rfl, VR.null _ _, (Below.refl _ _).alloc (Nat.le_refl _) _⟩
    | bool b =>
      obtain rfl := hV.head
      clear ih hV hok hn hS hb0 hsz0 E0
      cases b
      all_goals
        refine (fromGo_bool _ w).mono ?_
        rintro e w' ⟨rfl, hb⟩
        exact ⟨_, rfl, VR.bool _ _ _, hb⟩
    | num x =>
      have hh := hV.head
      simp only [JHead] at hh
      rw [JW] at hok
      simp only [J.half] at hok
      obtain ⟨⟨o1, o2, o3⟩, o4⟩ := hok
      clear ih hV hn o4
      by_cases he : x % 2 = 0
      · rw [if_pos he] at hh
        subst hh
        refine (fromGo_int (x / 2) w (by omega) (by omega)).mono ?_
        rintro e w' ⟨rfl, hb⟩
        rw [show 2 * (x / 2) = x by omega]
        exact ⟨_, rfl, VR.num _ _ _, hb⟩
      · rw [if_neg he] at hh
        subst hh
        have x0 : x ≠ 0 := by omega
        have x1 : -9007199254740992 < x := by omega
        have x2 : x < 9007199254740992 := by omega
        have hop : ∀ t w, (binOp .mul t (.float .f64 4611686018427387904) (.float .f64 (fb x))).run Tryz.prog w = .ok (.float .f64 (FloatKind.f64.nearest x)) w := fun t w => run_float_arith w .mul t .f64 _ _ _ (two_half x0 x1 x2)
        have H := Lib.hid fun w' => half_whole x0 x1 x2 w'
        have HB0 := Lib.hid hb0; have Z0 := Lib.hid hsz0
        clear he o1 o2 o3 x0 x1 x2 hb0 hS hsz0
        generalize FloatKind.f64.nearest x = X at *
        generalize fb x = Y at *
        unfold VC.nil VC.arr at *
        unfold numVC VC.val VC.arr VC.nil at H
        go_enter Tryz.func27, Tryz.ntmps27
        go_wp2_with (simp only [hop])
        refine (H.out _).mono ?_
        rintro e w1 ⟨rfl, hb1⟩
        have x0 := E0.out.below hb1 (by simp)
        have m0 := x0.c0; have m1 := x0.c1; have m2 := x0.c2; have m3 := x0.c3; have m4 := x0.c4; have m5 := x0.c5; have mf := x0.fr; have lt0 := x0.lt
        have HB1 := Lib.hid hb1
        simp only at m0 m1 m2 m3 m4 m5
        clear x0 hb1
        go_wp2_with fail
        refine bodyPost_ret (v := .tuple #[.agg #[.int .i64 3, .int .i64 x, .string ByteArray.empty, .slice none 0 0, .slice none 0 0, .slice none 0 0], .bool true]) (by simp [results, Tryz.results27, go_sem, m0, m1, m2, m3, m4, m5]) rfl ?_
        show FromGoPost w (.num x) (.returned (.tuple #[VC.val (numVC x), .bool true])) (valStored w1 w.heap.size (numVC x))
        exact ⟨_, rfl, VR.num _ _ _, valStored_below (HB0.out.trans (HB1.out.mono HB0.out.size)) (Nat.le_refl _)⟩
    | str s =>
      obtain rfl := hV.head
      clear ih hV hok hn hS hb0 hsz0 E0
      go_enter Tryz.func27, Tryz.ntmps27
      go_wp2_with fail
      exact bodyPost_ret (v := .tuple #[.agg #[.int .i64 4, .int .i64 0, .string s, .slice none 0 0, .slice none 0 0, .slice none 0 0], .bool true]) (by simp [results, Tryz.results27, go_sem]) rfl ⟨{VC.nil with k := 4, s := s}, rfl, VR.str _ _ _, (Below.refl _ _).alloc (Nat.le_refl _) _⟩
    | arr l =>
      obtain ⟨a, cap, rfl, hel⟩ := hV.arr
      rw [JW] at hok
      have L := listFromGo_any (S := S) (l := l) (a := a) (cap := cap) (w := w.alloc (.cells VC.nil.arr 26)) hok.2.1 (fun b h => by have := hS b h; omega)
        (fun i hi => by
          obtain ⟨b, o, x, h1, h2, h3, h4⟩ := hel i hi
          exact ⟨b, o, x, h1, h2, (hb0.cell (p := ⟨b, o + i, none⟩) (hS b h2)).trans h3, h4.go (fun b h => hb0.block b (hS b h)) (fun _ h => h)⟩)
        (fun i hi x w' S' hx hS' => ih l[i] x w' S' (by have := sizeOf_list (.arr l) (i := i) hi; simp only [J.list] at this; omega) (hok.2.2.2.1 i hi) hx hS')
      have LL := Lib.hid L; have HB0 := Lib.hid hb0; have Z0 := Lib.hid hsz0
      clear ih hV hok hn L hb0 hel hS hsz0
      unfold VC.nil VC.arr at *
      go_enter Tryz.func27, Tryz.ntmps27
      go_wp2_with fail
      refine LL.out.mono ?_
      rintro e w1 ⟨c, rfl, hV, hb1⟩
      have x0 := E0.out.below hb1 (by simp)
      have m0 := x0.c0; have m1 := x0.c1; have m2 := x0.c2; have m3 := x0.c3; have m4 := x0.c4; have m5 := x0.c5; have mf := x0.fr; have lt0 := x0.lt
      have HB1 := Lib.hid hb1; have HV := Lib.hid hV
      simp only at m0 m1 m2 m3 m4 m5
      clear x0 hb1 hV
      obtain ⟨k9, h9, s9, la9, ll9, lc9, ka9, kl9, kc9, va9, vl9, vc9⟩ := c
      unfold VC.val VC.arr
      go_wp2_with fail
      refine bodyPost_ret (v := .tuple #[.agg #[.int .i64 k9, .int .i64 h9, .string s9, .slice la9 ll9 lc9, .slice ka9 kl9 kc9, .slice va9 vl9 vc9], .bool true]) (by simp [results, Tryz.results27, go_sem, m0, m1, m2, m3, m4, m5]) rfl ?_
      show FromGoPost w (.arr l) (.returned (.tuple #[VC.val ⟨k9, h9, s9, la9, ll9, lc9, ka9, kl9, kc9, va9, vl9, vc9⟩, .bool true])) (valStored w1 w.heap.size ⟨k9, h9, s9, la9, ll9, lc9, ka9, kl9, kc9, va9, vl9, vc9⟩)
      exact ⟨_, rfl, HV.out.stored (by simp) (by simp), valStored_below (HB0.out.trans (HB1.out.mono HB0.out.size)) (Nat.le_refl _)⟩
    | obj m =>
      obtain ⟨b, mv, rfl, hbS, hM, hp, hel⟩ := hV.obj
      rw [JW] at hok
      have L := mapFromGo_any (S := S) (m := m) (b := b) (mv := mv) (w := w.alloc (.cells VC.nil.arr 26)) hok.2.2.1 (fun b h => by have := hS b h; omega) hok.2.2.2.2.2.1 hok.2.2.2.2.1 hbS (hM.same (hb0.block b (hS b hbS))) hp
        (fun i hi => by
          obtain ⟨x, h1, h2⟩ := hel i hi
          exact ⟨x, h1, h2.go (fun b h => hb0.block b (hS b h)) (fun _ h => h)⟩)
        (fun i hi x w' S' hx hS' => ih m[i].2 x w' S' (by have := sizeOf_ents (.obj m) (i := i) hi; simp only [J.ents] at this; omega) (hok.2.2.2.2.2.2 i hi) hx hS')
      have LL := Lib.hid L; have HB0 := Lib.hid hb0; have Z0 := Lib.hid hsz0
      clear ih hV hok hn L hb0 hel hS hsz0 hM hp
      unfold VC.nil VC.arr at *
      go_enter Tryz.func27, Tryz.ntmps27
      go_wp2_with fail
      refine LL.out.mono ?_
      rintro e w1 ⟨c, rfl, hV, hb1⟩
      have x0 := E0.out.below hb1 (by simp)
      have m0 := x0.c0; have m1 := x0.c1; have m2 := x0.c2; have m3 := x0.c3; have m4 := x0.c4; have m5 := x0.c5; have mf := x0.fr; have lt0 := x0.lt
      have HB1 := Lib.hid hb1; have HV := Lib.hid hV
      simp only at m0 m1 m2 m3 m4 m5
      clear x0 hb1 hV
      obtain ⟨k9, h9, s9, la9, ll9, lc9, ka9, kl9, kc9, va9, vl9, vc9⟩ := c
      unfold VC.val VC.arr
      go_wp2_with fail
      refine bodyPost_ret (v := .tuple #[.agg #[.int .i64 k9, .int .i64 h9, .string s9, .slice la9 ll9 lc9, .slice ka9 kl9 kc9, .slice va9 vl9 vc9], .bool true]) (by simp [results, Tryz.results27, go_sem, m0, m1, m2, m3, m4, m5]) rfl ?_
      show FromGoPost w (.obj m) (.returned (.tuple #[VC.val ⟨k9, h9, s9, la9, ll9, lc9, ka9, kl9, kc9, va9, vl9, vc9⟩, .bool true])) (valStored w1 w.heap.size ⟨k9, h9, s9, la9, ll9, lc9, ka9, kl9, kc9, va9, vl9, vc9⟩)
      exact ⟨_, rfl, HV.out.stored (by simp) (by simp), valStored_below (HB0.out.trans (HB1.out.mono HB0.out.size)) (Nat.le_refl _)⟩

/-- A value of the package is no error. -/
theorem JR.noError {w : World} {S : Nat → Prop} {j : J} {v : Value} (h : JR w S j v) (w' : World) : (Instr.typeAssert v 20 56 true).run Tryz.prog w' = .ok (.tuple #[.nilIface, .bool false]) w' := by
  have h := h.head
  cases j with
  | null => obtain rfl := h; exact as_nil_error w'
  | bool b => obtain rfl := h; exact as_bool_error _ w'
  | num x =>
    simp only [JHead] at h
    by_cases he : x % 2 = 0
    · rw [if_pos he] at h
      subst h
      exact as_int_error _ w'
    · rw [if_neg he] at h
      subst h
      exact as_float_error _ w'
  | str s => obtain rfl := h; exact as_string_error _ w'
  | arr l => obtain ⟨a, cap, rfl⟩ := h; exact as_anys_error _ w'
  | obj m => obtain ⟨b, rfl⟩ := h; exact as_map_error _ w'

/-- What result leaves of a value. -/
def ResultPost (w : World) (j : J) (e : Ending) (w' : World) : Prop := ∃ c, e = .returned (resVal c 0) ∧ VR w' (New w.heap.size w') j c ∧ Below w.heap.size w w'

theorem result_any (j : J) (v : Value) (w : World) (S : Nat → Prop) (hj : JW j) (hV : JR w S j v) (hS : ∀ b, S b → b < w.heap.size) : Calls Tryz.prog 17 #[v] w (ResultPost w j) := by
  have hne := fun w' => hV.noError w'
  have form := hV.form
  have hb0 : Below w.heap.size w (w.alloc (.cells #[.int .i64 0, .int .i64 0, .string ByteArray.empty, .slice none 0 0, .slice none 0 0, .slice none 0 0, .int .i64 0] 30)) := (Below.refl _ _).alloc (Nat.le_refl _) _
  have F := Lib.hid (fromGo_any (SizeOf.sizeOf j) j v (w.alloc (.cells #[.int .i64 0, .int .i64 0, .string ByteArray.empty, .slice none 0 0, .slice none 0 0, .slice none 0 0, .int .i64 0] 30)) S (Nat.le_refl _) hj
    (hV.go (fun b h => hb0.block b (hS b h)) (fun _ h => h)) (fun b h => Nat.lt_of_lt_of_le (hS b h) hb0.size))
  have RB := Lib.hid (resbox_alloc w VC.nil 0)
  have HB0 := Lib.hid hb0
  clear hV hS hj hb0
  unfold VC.nil at RB
  rcases form with rfl | ⟨t, u, rfl⟩
  all_goals
    go_enter Tryz.func17, Tryz.ntmps17
    go_wp2_with (simp only [hne])
    refine F.out.mono ?_
    rintro e w1 ⟨c, rfl, hV, hb1⟩
    have rb := RB.out.below hb1 (by simp)
    have q0 := rb.c0; have q1 := rb.c1; have q2 := rb.c2; have q3 := rb.c3; have q4 := rb.c4; have q5 := rb.c5; have q6 := rb.c6; have qf := rb.fr
    have lt := rb.lt
    have HB1 := Lib.hid hb1; have HV := Lib.hid hV
    clear rb hb1 hV
    obtain ⟨k9, h9, s9, la9, ll9, lc9, ka9, kl9, kc9, va9, vl9, vc9⟩ := c
    unfold VC.val VC.arr
    go_wp2_with fail
    refine bodyPost_ret (v := .agg #[.int .i64 k9, .int .i64 h9, .string s9, .slice la9 ll9 lc9, .slice ka9 kl9 kc9, .slice va9 vl9 vc9, .int .i64 0]) (by simp [results, Tryz.results17, go_sem, q0, q1, q2, q3, q4, q5, q6, lt]) rfl ?_
    have sz := HB1.out.size
    simp only [World.size_alloc] at sz
    have hr : Below w.heap.size w (resStored w1 w.heap.size ⟨k9, h9, s9, la9, ll9, lc9, ka9, kl9, kc9, va9, vl9, vc9⟩ 0) := resStored_below (HB0.out.trans (HB1.out.mono HB0.out.size)) (Nat.le_refl _)
    have hz : (resStored w1 w.heap.size ⟨k9, h9, s9, la9, ll9, lc9, ka9, kl9, kc9, va9, vl9, vc9⟩ 0).heap.size = w1.heap.size := resStored_size
    refine ⟨⟨k9, h9, s9, la9, ll9, lc9, ka9, kl9, kc9, va9, vl9, vc9⟩, rfl, ?_, ?_⟩
    · show VR ((resStored w1 w.heap.size ⟨k9, h9, s9, la9, ll9, lc9, ka9, kl9, kc9, va9, vl9, vc9⟩ 0).alloc _) (New w.heap.size ((resStored w1 w.heap.size ⟨k9, h9, s9, la9, ll9, lc9, ka9, kl9, kc9, va9, vl9, vc9⟩ 0).alloc _)) j _
      refine HV.out.go (fun b hb => ?_) (fun b hb => ⟨by have := hb.1; simp at this; omega, by rw [World.size_alloc, hz]; have := hb.2; omega⟩)
      rw [Below.heap_alloc _ _ _ (by rw [hz]; exact hb.2)]
      exact resStored_block (by have := hb.1; simp at this; omega)
    · exact hr.alloc (by rw [hz]; omega) _
end Go.Proofs.YtjannccgfmclhaaGreatDoor
