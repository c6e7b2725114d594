/- A part of the proof. A part of the proof. A part of the proof. -/
import Derived.Test.YtbdciilkapgfjaaGreatDoorShelfP
import Derived.Test.YtbdciilkapgfjaaGreatDoorZValid
import Derived.Test.YtbdciilkapgfjaaGreatDoorZFmtI
import Derived.Test.YtbdciilkapgfjaaGreatDoorTypes
import Derived.Lib.AtoiErrMem
namespace Go.Proofs.YtbdciilkapgfjaaGreatDoor
open Go.RowKit Go.Shelf

theorem dtxt_list (D : List Nat) : (dtxt D).data.toList = D.map fun d => UInt8.ofNat (48 + d) := by
  rw [dtxt, strOfNums_data, List.map_map]
  apply List.map_congr_left
  intro d _
  show UInt8.ofNat (((48 + d : Nat) : Int)).toNat = _
  congr 1
theorem dig_byte {d : Nat} (h : d < 10) : (UInt8.ofNat (48 + d)).toNat = 48 + d := by
  rw [UInt8.toNat_ofNat']; omega

theorem parseU (D : List Nat) (acc : Nat) (r : List UInt8) (hD : ∀ d ∈ D, d < 10) (hl : D.foldl (fun n d => 10 * n + d) acc ≤ 1000000000000000000) :
    Lib.parseUintM (2 ^ 64 - 1) acc (D.map (fun d => UInt8.ofNat (48 + d)) ++ r) = Lib.parseUintM (2 ^ 64 - 1) (D.foldl (fun n d => 10 * n + d) acc) r := by
  induction D generalizing acc with
  | nil => rfl
  | cons d D ih =>
    have hd := hD d List.mem_cons_self
    have hge : 10 * acc + d ≤ D.foldl (fun n d => 10 * n + d) (10 * acc + d) := by
      rw [dval_foldl]
      have : 1 ≤ 10 ^ D.length := Nat.pow_pos (by decide)
      exact Nat.le_trans (Nat.le_mul_of_pos_right _ this) (Nat.le_add_right _ _)
    simp only [List.foldl_cons] at hl
    rw [List.map_cons, List.cons_append, Lib.parseUintM, dig_byte hd, if_pos (by omega), if_neg (by omega), if_neg (by omega)]
    rw [show acc * 10 + (48 + d - 48) = 10 * acc + d by omega]
    exact ih _ (fun x hx => hD x (List.mem_cons_of_mem _ hx)) hl

theorem dval_fold (D : List Nat) : D.foldl (fun n d => 10 * n + d) 0 = dval D := rfl
theorem parse_digs (n : Nat) (hn : n ≤ 1000000000000000000) : Lib.parseUintB 64 (dtxt (digs n)).data.toList = .ok n := by
  rw [dtxt_list]
  have hne : (digs n).map (fun d => UInt8.ofNat (48 + d)) ≠ [] := by simp [digs_ne]
  rw [Lib.parseUintB, if_neg hne]
  have h := parseU (digs n) 0 [] (digs_dig n) (by rw [dval_fold, digs_val]; exact hn)
  rw [List.append_nil, dval_fold, digs_val] at h
  rw [h]; rfl
theorem minus_list (D : List Nat) : (minusT ++ dtxt D).data.toList = 45 :: (dtxt D).data.toList := by
  rw [ByteArray.data_append, Array.toList_append]; rfl
theorem digs_head (n : Nat) : ∃ d r, digs n = d :: r ∧ d < 10 := by
  cases h : digs n with
  | nil => exact absurd h (digs_ne n)
  | cons d r => exact ⟨d, r, rfl, digs_dig n d (by rw [h]; exact List.mem_cons_self)⟩
theorem parseInt_plain {c : UInt8} {r : List UInt8} {n : Nat} (h1 : ¬ (c.toNat = 43 ∨ c.toNat = 45)) (hp : Lib.parseUintB 64 (c :: r) = .ok n) (hn : n < 9223372036854775808) : Lib.parseIntB 64 (c :: r) = .ok (n : Int) := by
  have h2 : ¬ c.toNat = 45 := fun e => h1 (Or.inr e)
  have h3 : ¬ 9223372036854775808 ≤ n := by omega
  have h4 : ¬ c.toNat = 43 := fun e => h1 (Or.inl e)
  rw [Lib.parseIntB]
  simp [h4, h2, hp, h3]
theorem parse_itxt (i : Int) (h1 : -1000000000000000000 ≤ i) (h2 : i ≤ 1000000000000000000) : Lib.parseIntB 64 (itxt i).data.toList = .ok i := by
  have hp := parse_digs i.natAbs (by omega)
  unfold itxt
  by_cases hi : i < 0
  · rw [if_pos hi, minus_list, Lib.parseIntB]
    have e45 : (45 : UInt8).toNat = 45 := rfl
    simp only [e45, or_true, if_true, hp, true_and, not_true_eq_false, false_and, if_false]
    rw [if_neg (by omega)]
    congr 1
    omega
  · rw [if_neg hi]
    obtain ⟨d, r, hdr, hd⟩ := digs_head i.natAbs
    have hl : (dtxt (digs i.natAbs)).data.toList = UInt8.ofNat (48 + d) :: r.map (fun d => UInt8.ofNat (48 + d)) := by rw [dtxt_list, hdr]; rfl
    rw [hl] at hp ⊢
    have e := dig_byte hd
    rw [parseInt_plain (n := i.natAbs) (by omega) hp (by omega)]
    congr 1
    omega

/-- A text as the lexer takes it. -/
def NumText (s : ByteArray) : Prop := ∃ p q, (p = 0 ∨ (p = 1 ∧ byteAt s 0 = 45)) ∧ NumT s p q

theorem byteAt_list {s : ByteArray} {l : List UInt8} (h : s.data.toList = l) (k : Nat) (hk : k < l.length) : byteAt s k = (l[k]).toNat := by
  subst h
  have h1 : k < s.size := by simpa using hk
  unfold byteAt
  rw [dif_pos h1]
  rfl
theorem size_list {s : ByteArray} {l : List UInt8} (h : s.data.toList = l) : s.size = l.length := by subst h; simp
theorem isDig_dig {d : Nat} (h : d < 10) : isDig (UInt8.ofNat (48 + d)).toNat = true := by
  rw [dig_byte h]; simp [isDig]; omega
theorem numText_itxt (i : Int) (h1 : -1000000000000000000 ≤ i) (h2 : i ≤ 1000000000000000000) : NumText (itxt i) := by
  have hl := digs_len (n := i.natAbs) (k := 20) (by decide) (by omega)
  have hp := List.length_pos_iff.2 (digs_ne i.natAbs)
  have hd := digs_dig i.natAbs
  unfold itxt
  by_cases hi : i < 0
  · rw [if_pos hi]
    have e : (minusT ++ dtxt (digs i.natAbs)).data.toList = 45 :: (digs i.natAbs).map (fun d => UInt8.ofNat (48 + d)) := by rw [minus_list, dtxt_list]
    have hs := size_list e
    simp only [List.length_cons, List.length_map] at hs
    refine ⟨1, (digs i.natAbs).length + 1, Or.inr ⟨rfl, ?_⟩, ⟨by omega, by omega, fun k hk1 hk2 => ?_, fun h => by omega, fun k hk1 hk2 => by omega, by omega⟩⟩
    · rw [byteAt_list e 0 (by simp)]; rfl
    · obtain ⟨k', rfl⟩ : ∃ k', k = k' + 1 := ⟨k - 1, by omega⟩
      rw [byteAt_list e (k' + 1) (by simp; omega)]
      simp only [List.getElem_cons_succ, List.getElem_map]
      exact isDig_dig (hd _ (List.getElem_mem _))
  · rw [if_neg hi]
    have e := dtxt_list (digs i.natAbs)
    have hs := size_list e
    simp only [List.length_map] at hs
    refine ⟨0, (digs i.natAbs).length, Or.inl rfl, ⟨by omega, by omega, fun k hk1 hk2 => ?_, fun h => by omega, fun k hk1 hk2 => by omega, by omega⟩⟩
    rw [byteAt_list e k (by simp; omega)]
    simp only [List.getElem_map]
    exact isDig_dig (hd _ (List.getElem_mem _))
end Go.Proofs.YtbdciilkapgfjaaGreatDoor

namespace Go.Proofs.YtbdciilkapgfjaaGreatDoor
open Go.RowKit Go.Shelf

theorem jInt64_ok {s : ByteArray} {i : Int} (h : Lib.parseIntB 64 s.data.toList = .ok i) (hs : s.size ≤ 1000) (w : World) : Calls Tryz.prog 45 #[.string s] w fun e w' => e = .returned (.tuple #[.int .i64 i, .nilIface]) ∧ Below w.heap.size w w' := by
  have H := Lib.hid (Any.strconv_ParseInt_10_at64_ok Tryz.parseIntC s (by omega) i h w)
  clear h hs
  go_enter Tryz.func45, Tryz.ntmps45
  go_wp2_with fail
  refine H.out.mono ?_
  rintro e w1 ⟨rfl, hw⟩
  have HB : Hid (Below w.heap.size w w1) := Lib.hid (by
    rcases hw with rfl | ⟨t, rfl⟩
    · exact Below.refl _ _
    · exact Lib.bytesWorld_below w _ t)
  clear hw
  go_wp2_with fail
  go_ret2
  exact ⟨rfl, HB.out⟩

set_option maxRecDepth 100000 in
theorem parseNumber_int {s : ByteArray} {i : Int} (h : Lib.parseIntB 64 s.data.toList = .ok i) (hs : s.size ≤ 1000) (h1 : -1000000000000000000 ≤ i) (h2 : i ≤ 1000000000000000000) (w : World) :
    Calls Tryz.prog 37 #[.string s] w fun e w' => e = .returned (.iface 3 (.int .i64 i)) ∧ Below w.heap.size w w' := by
  have H := Lib.hid (jInt64_ok h hs w)
  have d1 : decide ((-9223372036854775808 : Int) ≤ i) = true := decide_eq_true (by omega)
  have d2 : decide (i ≤ (9223372036854775807 : Int)) = true := decide_eq_true (by omega)
  clear h hs h1 h2
  go_enter Tryz.func37, Tryz.ntmps37
  go_wp2_with fail
  refine H.out.mono ?_
  rintro e w1 ⟨rfl, hb⟩
  have HB := Lib.hid hb
  clear hb
  go_wp2_with fail
  go_ret
  exact ⟨rfl, HB.out⟩

theorem toNumber_of {s : ByteArray} {v : Value} {w : World} {Q : World → Prop} (h : Calls Tryz.prog 37 #[.string s] w fun e w' => e = .returned v ∧ Q w') : Calls Tryz.prog 25 #[.string s] w fun e w' => e = .returned v ∧ Q w' := by
  have H := Lib.hid h
  clear h
  go_enter Tryz.func25, Tryz.ntmps25
  go_wp2_with fail
  refine H.out.mono ?_
  rintro e w1 ⟨rfl, hb⟩
  have HB := Lib.hid hb
  clear hb
  go_wp2_with fail
  go_ret
  exact ⟨rfl, HB.out⟩

theorem newLexer_any (s : ByteArray) (w : World) : Calls Tryz.prog 22 #[.string s] w fun e w' => e = .returned (.pointer (some ⟨w.heap.size, 0, none⟩)) ∧ LexAt w' w.heap.size s 0 ∧ Below w.heap.size w w' := by
  go_enter Tryz.func22, Tryz.ntmps22
  go_wp2_with fail
  go_ret
  have h := heap_alloc_at w (.cells #[.string s, .int .i64 0, .pointer none, .string ⟨#[]⟩, .int .i64 0, .bool false, .nilIface] 80)
  exact ⟨rfl, ⟨by rw [Lib.cell_of_heap h]; rfl, by rw [Lib.cell_of_heap h]; rfl, Lib.frozen_of_heap h 1, by simp⟩, (Below.refl _ _).alloc (Nat.le_refl _) _⟩

set_option maxRecDepth 100000 in
theorem funcToNumber_str {s : ByteArray} {v : Value} {w : World} (hs : NumText s) (h : ∀ w1, Below w.heap.size w w1 → Calls Tryz.prog 37 #[.string s] w1 fun e w' => e = .returned v ∧ Below w1.heap.size w1 w') :
    Calls Tryz.prog 16 #[.iface 9 (.string s)] w fun e w' => e = .returned v ∧ Below w.heap.size w w' := by
  have H := Lib.hid h; have HS := Lib.hid hs
  clear h hs
  go_enter Tryz.func16, Tryz.ntmps16
  go_wp2_with fail
  refine (newLexer_any s w).mono ?_
  rintro e w1 ⟨rfl, hl, hb⟩
  have HL := Lib.hid hl; have HB := Lib.hid hb
  clear hl hb
  go_wp2_with fail
  have V : Hid (Calls Tryz.prog 23 #[.pointer (some ⟨w.heap.size, 0, none⟩)] w1 fun e w' => e = .returned (.bool true) ∧ w1.grownBy w' (some w.heap.size)) := Lib.hid (by
    obtain ⟨p, q, hp, hT⟩ := HS.out
    exact validNumber_any HL.out hp hT)
  refine V.out.mono ?_
  rintro e w2 ⟨rfl, hg⟩
  have B2 := Lib.hid (HB.out.trans (below_of_grown hg (Nat.le_refl _) HB.out.size))
  clear hg V
  go_wp2_with fail
  refine (toNumber_of (H.out w2 B2.out)).mono ?_
  rintro e w3 ⟨rfl, hb3⟩
  have B3 := Lib.hid (B2.out.trans (hb3.mono B2.out.size))
  clear hb3
  go_wp2_with fail
  go_ret
  exact ⟨rfl, B3.out⟩
theorem ZzNumber_of {x v : Value} {w : World} (h : Calls Tryz.prog 16 #[x] w fun e w' => e = .returned v ∧ Below w.heap.size w w') : Calls Tryz.prog 10 #[x] w fun e w' => e = .returned v ∧ Below w.heap.size w w' := by
  have H := Lib.hid h
  clear h
  go_enter Tryz.func10, Tryz.ntmps10
  go_wp2_with fail
  refine H.out.mono ?_
  rintro e w1 ⟨rfl, hb⟩
  have HB := Lib.hid hb
  clear hb
  go_wp2_with fail
  go_ret
  exact ⟨rfl, HB.out⟩
end Go.Proofs.YtbdciilkapgfjaaGreatDoor

namespace Go.Proofs.YtbdciilkapgfjaaGreatDoor
open Go.RowKit Go.Shelf

/-- The text of k and a half. -/
def htxt (neg : Bool) (k : Nat) : ByteArray := (if neg then minusT else ByteArray.empty) ++ (dtxt (digs k) ++ ⟨(46 :: 53 :: []).toArray⟩)
theorem htxt_list (neg : Bool) (k : Nat) : (htxt neg k).data.toList = (if neg then [45] else []) ++ ((digs k).map (fun d => UInt8.ofNat (48 + d)) ++ [46, 53]) := by
  rw [htxt, ByteArray.data_append, Array.toList_append, ByteArray.data_append, Array.toList_append, dtxt_list]
  cases neg <;> rfl

/-- What the readers see of it: a sign, digits, a point, a five. -/
structure HalfAt (s : ByteArray) (neg : Bool) (k p q : Nat) : Prop where
  sign : p = if neg then 1 else 0
  minus : neg = true → byteAt s 0 = 45
  len : q = p + (digs k).length
  size : s.size = q + 2
  d : ∀ j (h : j < (digs k).length), byteAt s (p + j) = 48 + (digs k)[j]
  dot : byteAt s q = 46
  five : byteAt s (q + 1) = 53
  small : s.size ≤ 40

theorem htxt_at (neg : Bool) {k : Nat} (hk : k ≤ 10000000000000000) : ∃ p q, HalfAt (htxt neg k) neg k p q := by
  have hl := digs_len (n := k) (k := 20) (by decide) (by omega)
  have e := htxt_list neg k
  have hs := size_list e
  obtain ⟨r, hr⟩ : ∃ r, r = (digs k).map (fun d => UInt8.ofNat (48 + d)) := ⟨_, rfl⟩
  have hrl : r.length = (digs k).length := by rw [hr]; simp
  have hrd : ∀ j (h : j < (digs k).length), (r[j]'(by omega)).toNat = 48 + (digs k)[j] := by
    intro j h
    subst hr
    rw [List.getElem_map]
    exact dig_byte (digs_dig k _ (List.getElem_mem _))
  rw [← hr] at e hs
  cases neg with
  | false =>
    simp only [Bool.false_eq_true, if_false, List.nil_append] at e
    simp only [Bool.false_eq_true, if_false, List.nil_append, List.length_append, List.length_cons, List.length_nil] at hs
    refine ⟨0, r.length, ⟨rfl, by simp, by omega, by omega, fun j h => ?_, ?_, ?_, by omega⟩⟩
    · rw [Nat.zero_add, byteAt_list e j (by simp; omega), List.getElem_append_left (by omega)]
      exact hrd j h
    · rw [byteAt_list e _ (by simp), List.getElem_append_right (by omega)]; simp
    · rw [byteAt_list e _ (by simp), List.getElem_append_right (by omega)]; simp
  | true =>
    simp only [if_true, List.cons_append, List.nil_append] at e
    simp only [if_true, List.cons_append, List.nil_append, List.length_append, List.length_cons, List.length_nil] at hs
    refine ⟨1, r.length + 1, ⟨rfl, fun _ => ?_, by omega, by omega, fun j h => ?_, ?_, ?_, by omega⟩⟩
    · rw [byteAt_list e 0 (by simp)]; rfl
    · rw [Nat.add_comm 1 j, byteAt_list e (j + 1) (by simp; omega), List.getElem_cons_succ, List.getElem_append_left (by omega)]
      exact hrd j h
    · rw [byteAt_list e _ (by simp), List.getElem_cons_succ, List.getElem_append_right (by omega)]; simp
    · rw [byteAt_list e _ (by simp), List.getElem_cons_succ, List.getElem_append_right (by omega)]; simp

theorem HalfAt.digit {s : ByteArray} {neg : Bool} {k p q : Nat} (h : HalfAt s neg k p q) {j : Nat} (hj : j < (digs k).length) : isDig (byteAt s (p + j)) = true := by
  rw [h.d j hj]
  have := digs_dig k _ (List.getElem_mem hj)
  simp [isDig]; omega
theorem HalfAt.numText {s : ByteArray} {neg : Bool} {k p q : Nat} (h : HalfAt s neg k p q) : NumText s := by
  have hp := List.length_pos_iff.2 (digs_ne k)
  have hl := h.len; have hz := h.size; have hm := h.small
  refine ⟨p, q, ?_, ⟨by omega, by omega, fun i h1 h2 => ?_, fun _ => h.dot, fun i h1 h2 => ?_, by omega⟩⟩
  · have h1 := h.sign
    cases neg with
    | false => exact Or.inl h1
    | true => exact Or.inr ⟨h1, h.minus rfl⟩
  · obtain ⟨j, rfl⟩ : ∃ j, i = p + j := ⟨i - p, by omega⟩
    exact h.digit (by omega)
  · obtain rfl : i = q + 1 := by omega
    rw [h.five]; rfl

theorem parseU_bad (D : List Nat) (acc : Nat) (r : List UInt8) (hD : ∀ d ∈ D, d < 10) (hl : D.foldl (fun n d => 10 * n + d) acc ≤ 1000000000000000000) :
    Lib.parseUintM (2 ^ 64 - 1) acc (D.map (fun d => UInt8.ofNat (48 + d)) ++ 46 :: r) = Lib.parseUintB 64 [] := by
  rw [parseU D acc _ hD hl, Lib.parseUintM]
  rfl
theorem parse_htxt (neg : Bool) {k : Nat} (hk : k ≤ 10000000000000000) : Lib.parseIntB 64 (htxt neg k).data.toList = Lib.parseIntB 64 [] := by
  obtain ⟨z, hz⟩ : ∃ z, z = Lib.parseIntB 64 [] := ⟨_, rfl⟩
  obtain ⟨y, hy⟩ : ∃ y, y = Lib.parseUintB 64 [] := ⟨_, rfl⟩
  rw [htxt_list, ← hz]
  have hb := parseU_bad (digs k) 0 [53] (digs_dig k) (by rw [dval_fold, digs_val]; omega)
  rw [← hy] at hb
  obtain ⟨d, r, hdr, hd⟩ := digs_head k
  have hU : Lib.parseUintB 64 ((digs k).map (fun d => UInt8.ofNat (48 + d)) ++ [46, 53]) = y := by
    rw [Lib.parseUintB, if_neg (by simp), hb]
  have e45 : (45 : UInt8).toNat = 45 := rfl
  cases neg with
  | true =>
    rw [if_pos rfl, List.singleton_append, Lib.parseIntB]
    simp only [e45, or_true, if_true, hU]
    rw [hy, hz]
    rfl
  | false =>
    simp only [Bool.false_eq_true, if_false, List.nil_append]
    rw [hdr] at hU ⊢
    rw [List.map_cons, List.cons_append] at hU ⊢
    have e := dig_byte hd
    have h4 : ¬ (UInt8.ofNat (48 + d)).toNat = 43 := by omega
    have h2 : ¬ (UInt8.ofNat (48 + d)).toNat = 45 := by omega
    rw [Lib.parseIntB]
    simp only [h4, h2, or_self, if_false, hU]
    rw [hy, hz]
    rfl

/-- The digits so far, as a number. -/
def pre (k j : Nat) : Nat := dval ((digs k).take j)
theorem pre_zero (k : Nat) : pre k 0 = 0 := by simp [pre, dval]
theorem pre_all (k : Nat) : pre k (digs k).length = k := by rw [pre, List.take_length, digs_val]
theorem pre_succ {k j : Nat} (h : j < (digs k).length) : pre k (j + 1) = 10 * pre k j + (digs k)[j] := by
  rw [pre, pre, List.take_succ_eq_append_getElem h, dval_snoc]
theorem pre_le (k : Nat) : ∀ j i, j + i = (digs k).length → pre k j ≤ k := by
  intro j i
  induction i generalizing j with
  | zero => intro h; have : j = (digs k).length := by omega
            rw [this, pre_all]; exact Nat.le_refl _
  | succ i ih =>
    intro h
    have h1 := ih (j + 1) (by omega)
    rw [pre_succ (by omega)] at h1
    omega
theorem digs_zero : digs 0 = [0] := digs_lt (by decide)
theorem digs_first {k : Nat} (hk : k ≠ 0) (h : 0 < (digs k).length) : (digs k)[0] ≠ 0 := digs_fst hk _ (by rw [List.head?_eq_getElem?, List.getElem?_eq_getElem h])
end Go.Proofs.YtbdciilkapgfjaaGreatDoor
