/- A part of the proof. -/
import Derived.Test.YtbdciilkapgfjaaGreatDoorZFmtF
import Derived.Test.YtbdciilkapgfjaaGreatDoorM38
namespace Go.Proofs.YtbdciilkapgfjaaGreatDoor
open Go.RowKit Ieee

theorem order_of {x y : Nat} {s t : Bool} {m n : Nat} {i j : Int} (hx : double.read x = .number s m i) (hy : double.read y = .number t n j) : FloatKind.f64.format.order x y = some (compare (signed s m (i - min i j).toNat) (signed t n (j - min i j).toNat)) := by
  show (double.read x).order (double.read y) = _
  rw [hx, hy]
  rfl
theorem cmp_lt {a b : Int} (h : a < b) : compare a b = .lt := by simp only [compare, compareOfLessAndEq]; rw [if_pos h]
theorem cmp_gt {a b : Int} (h : b < a) : compare a b = .gt := by simp only [compare, compareOfLessAndEq]; rw [if_neg (by omega), if_neg (by omega)]
theorem cmp_eq (a : Int) : compare a a = .eq := by simp [compare, compareOfLessAndEq]
theorem signed_lt (s : Bool) (m d : Nat) : -((m <<< d : Nat) : Int) ≤ signed s m d ∧ signed s m d ≤ ((m <<< d : Nat) : Int) := by
  unfold signed
  generalize m <<< d = q
  split <;> omega
theorem read_max : double.read 9218868437227405311 = .number false 9007199254740991 971 := by decide +kernel
theorem read_min : double.read 18442240474082181119 = .number true 9007199254740991 971 := by decide +kernel
theorem read_nought : double.read 0 = .number false 0 (-1074) := by decide +kernel
theorem read_small : double.read 4517329193108106637 = .number false 4722366482869645 (-72) := by decide +kernel
theorem read_large : double.read 4921056587992461136 = .number false 7629394531250000 17 := by decide +kernel

section
variable {h : Int} (h0 : h ≠ 0) (h1 : -9007199254740992 < h) (h2 : h < 9007199254740992)
include h0 h1 h2
theorem half_self : FloatKind.f64.format.order (fb h) (fb h) = some .eq := by
  rw [order_of (read_half h0 h1 h2) (read_half h0 h1 h2), cmp_eq]
theorem half_max : FloatKind.f64.format.order (fb h) 9218868437227405311 = some .lt := by
  have hl := log2_le (m := h.natAbs) (by omega) (by omega)
  have hb := (sig_bounds h0 h1 h2).2
  rw [order_of (read_half h0 h1 h2) read_max, cmp_lt]
  have e : min (-((52 - h.natAbs.log2 : Nat) : Int) - 1) 971 = -((52 - h.natAbs.log2 : Nat) : Int) - 1 := by omega
  rw [e, Int.sub_self]
  have s1 := (signed_lt (decide (h < 0)) (sig h) 0).2
  show signed _ _ 0 < _
  have s2 : signed false 9007199254740991 ((971 - (-((52 - h.natAbs.log2 : Nat) : Int) - 1)).toNat) = ((9007199254740991 <<< ((971 - (-((52 - h.natAbs.log2 : Nat) : Int) - 1)).toNat) : Nat) : Int) := by unfold signed; simp
  have s3 : 9007199254740991 * 2 ^ 1 ≤ 9007199254740991 <<< ((971 - (-((52 - h.natAbs.log2 : Nat) : Int) - 1)).toNat) := by rw [Nat.shiftLeft_eq]; exact Nat.mul_le_mul_left _ (Nat.pow_le_pow_right (by decide) (by omega))
  rw [s2]
  simp only [Nat.shiftLeft_zero] at s1
  omega
theorem half_min : FloatKind.f64.format.order (fb h) 18442240474082181119 = some .gt := by
  have hl := log2_le (m := h.natAbs) (by omega) (by omega)
  have hb := (sig_bounds h0 h1 h2).2
  rw [order_of (read_half h0 h1 h2) read_min, cmp_gt]
  have e : min (-((52 - h.natAbs.log2 : Nat) : Int) - 1) 971 = -((52 - h.natAbs.log2 : Nat) : Int) - 1 := by omega
  rw [e, Int.sub_self]
  have s1 := (signed_lt (decide (h < 0)) (sig h) 0).1
  show _ < signed _ _ 0
  have s2 : signed true 9007199254740991 ((971 - (-((52 - h.natAbs.log2 : Nat) : Int) - 1)).toNat) = -((9007199254740991 <<< ((971 - (-((52 - h.natAbs.log2 : Nat) : Int) - 1)).toNat) : Nat) : Int) := by unfold signed; simp
  have s3 : 9007199254740991 * 2 ^ 1 ≤ 9007199254740991 <<< ((971 - (-((52 - h.natAbs.log2 : Nat) : Int) - 1)).toNat) := by rw [Nat.shiftLeft_eq]; exact Nat.mul_le_mul_left _ (Nat.pow_le_pow_right (by decide) (by omega))
  rw [s2]
  simp only [Nat.shiftLeft_zero] at s1
  omega
end
section
variable {h : Int} (h1 : 0 < h) (h2 : h < 9007199254740992)
include h1 h2
theorem half_nought : FloatKind.f64.format.order (fb h) 0 = some .gt := by
  have hl := log2_le (m := h.natAbs) (by omega) (by omega)
  have hb := (sig_bounds (by omega) (by omega) h2).1
  rw [order_of (read_half (by omega) (by omega) h2) read_nought, cmp_gt]
  have d : decide (h < 0) = false := decide_eq_false (by omega)
  rw [d]
  have e : min (-((52 - h.natAbs.log2 : Nat) : Int) - 1) (-1074) = -1074 := by omega
  rw [e]
  show signed false 0 0 < _
  have s2 : ∀ q : Nat, signed false (sig h) q = ((sig h <<< q : Nat) : Int) := fun q => by unfold signed; simp
  have s3 : ∀ q : Nat, sig h * 2 ^ 0 ≤ sig h <<< q := fun q => by rw [Nat.shiftLeft_eq]; exact Nat.mul_le_mul_left _ (Nat.pow_le_pow_right (by decide) (by omega))
  rw [s2]
  have := s3 ((-((52 - h.natAbs.log2 : Nat) : Int) - 1 - -1074).toNat)
  show (0 : Int) < _
  omega
theorem half_small : FloatKind.f64.format.order (fb h) 4517329193108106637 = some .gt := by
  have hl := log2_le (m := h.natAbs) (by omega) (by omega)
  have hb := (sig_bounds (by omega) (by omega) h2).1
  rw [order_of (read_half (by omega) (by omega) h2) read_small, cmp_gt]
  have d : decide (h < 0) = false := decide_eq_false (by omega)
  rw [d]
  have e : min (-((52 - h.natAbs.log2 : Nat) : Int) - 1) (-72) = -72 := by omega
  rw [e]
  have s2 : ∀ q : Nat, signed false (sig h) q = ((sig h <<< q : Nat) : Int) := fun q => by unfold signed; simp
  have s3 : sig h * 2 ^ 2 ≤ sig h <<< ((-((52 - h.natAbs.log2 : Nat) : Int) - 1 - -72).toNat) := by rw [Nat.shiftLeft_eq]; exact Nat.mul_le_mul_left _ (Nat.pow_le_pow_right (by decide) (by omega))
  rw [s2]
  show (4722366482869645 : Int) < _
  omega
theorem half_large : FloatKind.f64.format.order (fb h) 4921056587992461136 = some .lt := by
  have hl := log2_le (m := h.natAbs) (by omega) (by omega)
  have hb := (sig_bounds (by omega) (by omega) h2).2
  rw [order_of (read_half (by omega) (by omega) h2) read_large, cmp_lt]
  have d : decide (h < 0) = false := decide_eq_false (by omega)
  rw [d]
  have e : min (-((52 - h.natAbs.log2 : Nat) : Int) - 1) 17 = -((52 - h.natAbs.log2 : Nat) : Int) - 1 := by omega
  rw [e, Int.sub_self]
  have s2 : ∀ m q : Nat, signed false m q = ((m <<< q : Nat) : Int) := fun m q => by unfold signed; simp
  have s3 : 7629394531250000 * 2 ^ 2 ≤ 7629394531250000 <<< ((17 - (-((52 - h.natAbs.log2 : Nat) : Int) - 1)).toNat) := by rw [Nat.shiftLeft_eq]; exact Nat.mul_le_mul_left _ (Nat.pow_le_pow_right (by decide) (by omega))
  rw [s2, s2]
  show ((sig h <<< 0 : Nat) : Int) < _
  rw [Nat.shiftLeft_zero]
  omega
end

theorem run_f64frombits (n : Nat) (w : World) : (callFunc 57 #[.int .u64 (n : Int)]).run Tryz.prog w = .ok (.value (.float .f64 n)) w := by
  rw [run_callFunc_extern Tryz.func57 (by kernel_rfl) (by kernel_rfl) (by kernel_rfl) (e := Extern.MathFloatBits.float64frombits) (by kernel_rfl)]
  rfl
/-- A sign taken off. -/
theorem fb_abs {h : Int} (h0 : h ≠ 0) (h1 : -9007199254740992 < h) (h2 : h < 9007199254740992) : fb h % 9223372036854775808 = fb (h.natAbs : Int) ∧ fb h < 18446744073709551616 := by
  have hl := log2_le (m := h.natAbs) (by omega) (by omega)
  have hb := (sig_bounds h0 h1 h2).2
  have hs : sig (h.natAbs : Int) = sig h := by unfold sig; rw [Int.natAbs_natCast]
  rw [half_word h0 h1 h2, half_word (h := (h.natAbs : Int)) (by omega) (by omega) (by omega), hs, Int.natAbs_natCast]
  have e1 : (-((52 - h.natAbs.log2 : Nat) : Int) - 1 + 1074).toNat = 1021 + h.natAbs.log2 := by omega
  have d : decide ((h.natAbs : Int) < 0) = false := decide_eq_false (by omega)
  rw [e1, d]
  unfold Format.word
  have sw : double.signWeight = 9223372036854775808 := by decide +kernel
  rw [sw]
  cases decide (h < 0)
  · simp; omega
  · simp; omega

set_option maxRecDepth 100000 in
/-- math.Abs of half an odd number. -/
theorem Abs_half {h : Int} (h0 : h ≠ 0) (h1 : -9007199254740992 < h) (h2 : h < 9007199254740992) (w : World) :
    Calls Tryz.prog 54 #[.float .f64 (fb h)] w fun e w' => e = .returned (.float .f64 (fb (h.natAbs : Int))) ∧ w' = w := by
  obtain ⟨e1, e2⟩ := fb_abs h0 h1 h2
  generalize fb (h.natAbs : Int) = Y at *
  generalize fb h = Z at *
  have ha : bits .andNot .u64 (Z : Int) 9223372036854775808 = (Y : Int) := by
    have h1 := u64_andNot_nat Z 9223372036854775808 e2 (by decide)
    have h2 : Z &&& (18446744073709551615 - 9223372036854775808) = Z % 2 ^ 63 := Nat.and_two_pow_sub_one_eq_mod Z 63
    rw [h2, show Z % 2 ^ 63 = Y from e1] at h1
    exact h1
  have rb := run_tobits Z
  have rf := run_f64frombits Y
  clear e1 e2 h0 h1 h2
  go_enter Tryz.func54, Tryz.ntmps54
  go_wp2_with fail
  go_ret
  exact ⟨rfl, rfl⟩

theorem IsNaN_half {h : Int} (h0 : h ≠ 0) (h1 : -9007199254740992 < h) (h2 : h < 9007199254740992) (w : World) :
    Calls Tryz.prog 88 #[.float .f64 (fb h)] w fun e w' => e = .returned (.bool false) ∧ w' = w := by
  have o := half_self h0 h1 h2
  generalize fb h = Z at *
  go_enter Tryz.func88, Tryz.ntmps88
  go_wp2_with fail
  go_ret
  exact ⟨rfl, rfl⟩

theorem htxt_size {neg : Bool} {k : Nat} (hk : k ≤ 10000000000000000) : (htxt neg k).size ≤ 24 := by
  have := digs_len (n := k) (k := 20) (by decide) (by omega)
  unfold htxt
  rw [ByteArray.size_append, ByteArray.size_append, dtxt_size]
  cases neg
  · show 0 + (_ + 2) ≤ _; omega
  · show 1 + (_ + 2) ≤ _; omega

set_option maxRecDepth 100000 in
theorem AppendFloat_half {h : Int} {k : Nat} (hk : h.natAbs = 2 * k + 1) (hb : h.natAbs ≤ 2000000000000000) {N off : Nat} {w : World} (hr : Room64 w N off) (hN : N < w.heap.size) :
    Calls Tryz.prog 89 #[.slice (some ⟨N, off, none⟩) 0 64, .float .f64 (fb h), .int .u8 102, .int .i64 (-1), .int .i64 64] w fun e w' => e = .returned (.slice (some ⟨N, off, none⟩) (htxt (decide (h < 0)) k).size 64) ∧ Put w N off (htxt (decide (h < 0)) k) w' := by
  have hin : (Tryz.prog.info? 5).map (fun i => (i.zero, i.size, i.bytes)) = some (some (.int .u8 0), 1, 1) := by kernel_rfl
  obtain ⟨i0, hi, hz0, hz1, hz2⟩ := info_parts hin
  have F := Lib.hid (FormatFloat_half hk hb w)
  have hsz := htxt_size (neg := decide (h < 0)) (k := k) (by omega)
  have HR := Lib.hid hr; have HI := Lib.hid hi; have HZ := Lib.hid hz1
  clear hr hk hb hi hz0 hz1 hz2 hin
  generalize htxt (decide (h < 0)) k = s at *
  generalize fb h = Z at *
  go_enter Tryz.func89, Tryz.ntmps89
  go_wp2_with fail
  refine F.out.mono ?_
  rintro e w1 ⟨rfl, hb⟩
  have hroom := HR.out.below hb hN
  have happ := fun ty => run_append_room_text (P := Tryz.prog) w1 105 9 ty 5 i0 Tryz.underlying105 Tryz.underlying9 HI.out HZ.out N off 0 64 s (by omega) (fun j hj => hroom.cell j (by omega)) (fun j hj => hroom.fr j (by omega))
  simp only [Nat.add_zero, Nat.zero_add] at happ
  have HB := Lib.hid hb
  clear hb hroom
  go_wp2_with (at_builtin; go_loud (refine wpList_append_run rfl (.tmp 11) (.tmp 16) 105 9 rfl _ _ _ rfl rfl happ ?_))
  go_ret
  exact ⟨rfl, w1, HB.out, rfl⟩

theorem method_write (b : Nat) (w : World) : (method 498 104 (.pointer (some ⟨b, 0, none⟩)) "Write").run Tryz.prog w = .ok (229, .pointer (some ⟨b, 0, none⟩)) w := by kernel_rfl
theorem call_write (x y : Value) (w : World) : (callFunc 229 #[x, y]).run Tryz.prog w = .ok (.enter 229 #[x, y]) w := by kernel_rfl
set_option maxRecDepth 100000 in
set_option maxHeartbeats 2000000 in
/-- encodeFloat64 of half an odd number. -/
theorem encodeFloat_half {h : Int} {k : Nat} (hk : h.natAbs = 2 * k + 1) (hb : h.natAbs ≤ 2000000000000000) {N b : Nat} {w : World} (hE : EncAt w N (.iface 104 (.pointer (some ⟨b, 0, none⟩)))) (hbb : w.heap[b]? = some (.cells #[.pointer none, .slice none 0 0] 107 (0, 0))) (hNb : b < N) :
    Calls Tryz.prog 67 #[.pointer (some ⟨N, 0, none⟩), .float .f64 (fb h)] w (EncPost b (htxt (decide (h < 0)) k) w) := by
  have h0 : h ≠ 0 := by omega
  have h1 : -9007199254740992 < h := by omega
  have h2 : h < 9007199254740992 := by omega
  have NN := Lib.hid (fun w' => IsNaN_half h0 h1 h2 w')
  have AB := Lib.hid (fun w' => Abs_half h0 h1 h2 w')
  have AP := Lib.hid (AppendFloat_half hk hb hE.room hE.lt)
  have hsz := htxt_size (neg := decide (h < 0)) (k := k) (by omega)
  have o1 := half_max h0 h1 h2
  have o2 := half_min h0 h1 h2
  have o3 := half_nought (h := (h.natAbs : Int)) (by omega) (by omega)
  have o4 := half_small (h := (h.natAbs : Int)) (by omega) (by omega)
  have o5 := half_large (h := (h.natAbs : Int)) (by omega) (by omega)
  have c0 := hE.c0
  have HE := Lib.hid hE; have HBB := Lib.hid hbb
  clear hE hbb hk hb h0 h1 h2
  generalize fb (h.natAbs : Int) = Y at *
  generalize fb h = Z at *
  generalize htxt (decide (h < 0)) k = s at *
  have m1 : ∀ w' : World, (Builtin.max_ #[39, 39] 39 #[.float .f64 Z, .float .f64 18442240474082181119]).run Tryz.prog w' = .ok (.float .f64 Z) w' := fun w' => by simp [Builtin.max_, Builtin.max2, o2]
  have m2 : ∀ w' : World, (Builtin.min_ #[39, 39] 39 #[.float .f64 Z, .float .f64 9218868437227405311]).run Tryz.prog w' = .ok (.float .f64 Z) w' := fun w' => by simp [Builtin.min_, Builtin.min2, o1]
  go_enter Tryz.func67, Tryz.ntmps67
  go_wp2_with fail
  refine (NN.out _).mono ?_
  rintro e w' ⟨rfl, rfl⟩
  go_wp2_with fail
  refine (AB.out _).mono ?_
  rintro e w' ⟨rfl, rfl⟩
  go_wp2_with fail
  refine AP.out.mono ?_
  rintro e w2 ⟨rfl, hp⟩
  obtain ⟨g1, g2⟩ := put_app HE.out (by omega) hp
  obtain ⟨_, _, d0, hcells⟩ := g1
  have hlt := HE.out.lt
  have hbel := below_of_grown g2 (B := b) (by omega) (by omega)
  have hb' : w2.heap[b]? = some (.cells #[.pointer none, .slice none 0 0] 107 (0, 0)) := (g2.block b (by omega) (fun e => by cases e; exact absurd hNb (Nat.lt_irrefl _))).trans HBB.out
  have hs2 := g2.size
  have WR := Lib.hid (write_any b b [] ⟨N, 1, none⟩ s.size 64 (Lib.strCells s) w2 (Or.inl ⟨Nat.le_refl _, _, hb', World.ownsRow_nil _ _ _ _, by simp [Value.ownBlock]⟩) (Lib.strCells_length _) (fun j u hj => by
    have : (⟨N, 1, none⟩ : Addr).add j = ⟨N, 1 + j, none⟩ := by unfold Addr.add; split <;> simp_all
    rw [this]; exact hcells j u hj) (Lib.strCells_oneCell _) (Nat.ne_of_gt hNb) (by simp; omega) (by omega))
  have BEL := Lib.hid hbel
  clear hp g2 hcells hb' hbel
  go_wp2_with fail
  rw [method_write]
  simp only [Result.andThen_ok]
  rw [call_write]
  refine Calls.mono (WR.out) ?_
  rintro e w3 ⟨rfl, hbld, hbel⟩
  have BLD := Lib.hid hbld; have BEL3 := Lib.hid (BEL.out.trans hbel)
  clear hbld hbel WR BEL
  go_wp2_with fail
  go_end0
  exact ⟨rfl, by simpa using BLD.out, BEL3.out⟩

set_option maxRecDepth 100000 in
set_option maxHeartbeats 2000000 in
/-- encode of half an odd number. -/
theorem encodes_half {h : Int} {k : Nat} (hk : h.natAbs = 2 * k + 1) (hb : h.natAbs ≤ 2000000000000000) : Encodes (.iface 39 (.float .f64 (fb h))) (htxt (decide (h < 0)) k) := by
  intro N b w hE hbb hNb
  have EF := Lib.hid (encodeFloat_half hk hb hE hbb hNb)
  clear hE hbb hNb hk hb
  generalize fb h = Z at *
  generalize htxt (decide (h < 0)) k = s at *
  go_enter Tryz.func52, Tryz.ntmps52
  go_wp2_with fail
  refine EF.out.mono ?_
  rintro e w3 ⟨rfl, hbld, hbel⟩
  have BLD := Lib.hid hbld; have BEL := Lib.hid hbel
  clear hbld hbel
  go_wp2_with fail
  go_end0
  exact ⟨rfl, BLD.out, BEL.out⟩
end Go.Proofs.YtbdciilkapgfjaaGreatDoor
