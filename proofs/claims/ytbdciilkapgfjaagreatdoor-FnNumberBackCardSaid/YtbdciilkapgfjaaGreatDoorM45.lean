/- A part of the proof. A part of the proof. -/
import Derived.Test.YtbdciilkapgfjaaGreatDoorM21
import Derived.Test.YtbdciilkapgfjaaGreatDoorZLaid
import Derived.Test.YtbdciilkapgfjaaGreatDoorZEncF
import Derived.Test.YtbdciilkapgfjaaGreatDoorM38
import Derived.Test.YtbdciilkapgfjaaGreatDoorM44
import Derived.Test.YtbdciilkapgfjaaGreatDoorM10
import Derived.Test.YtbdciilkapgfjaaGreatDoorZKnB
import Derived.Deep.DeepCutAuto
import Derived.Deep.CutBlock
namespace Go.Proofs.YtbdciilkapgfjaaGreatDoor
open Go.RowKit

/-- What a number is made as a text, and back. -/
structure Back (h : Int) (s : ByteArray) : Prop where
  small : s.size ≤ 1000
  enc : ∀ (v : Value), JHead (.num h) v → Encodes v s ∧ NoStr v
  num : NumText s
  parse : ∀ (w : World) (v : Value), Laid w → JHead (.num h) v → Calls Tryz.prog 37 #[.string s] w fun e w' => e = .returned v ∧ Below w.heap.size w w'

theorem back_even (i : Int) (h1 : -1000000000000000000 ≤ i) (h2 : i ≤ 1000000000000000000) : Back (2 * i) (itxt i) := by
  have e1 : 2 * i % 2 = 0 := by omega
  have e2 : 2 * i / 2 = i := by omega
  have hz : (itxt i).size ≤ 1000 := by obtain ⟨p, q, _, hT⟩ := numText_itxt i h1 h2; exact hT.small
  refine ⟨hz, fun v hv => ?_, numText_itxt i h1 h2, fun w v _ hv => ?_⟩
  · simp only [JHead, e1, e2, if_true] at hv
    subst hv
    exact ⟨encodes_int i h1 h2, fun w => as_int_string _ w⟩
  · simp only [JHead, e1, e2, if_true] at hv
    subst hv
    exact parseNumber_int (parse_itxt i h1 h2) hz h1 h2 w

/-- A value of half an odd number. -/
theorem float_noStr (Z : Nat) : NoStr (.iface 39 (.float .f64 Z)) := fun w => as_float_string _ w
theorem back_odd {h : Int} {k : Nat} (hk : h.natAbs = 2 * k + 1) (hb : h.natAbs ≤ 2000000000000000) : Back h (htxt (decide (h < 0)) k) := by
  obtain ⟨p, q, hA⟩ := htxt_at (decide (h < 0)) (k := k) (by omega)
  have hne : ¬ h % 2 = 0 := by omega
  refine ⟨by have := hA.small; omega, fun v hv => ?_, hA.numText, fun w v hL hv => ?_⟩
  · simp only [JHead, if_neg hne] at hv
    subst hv
    exact ⟨encodes_half hk hb, float_noStr _⟩
  · simp only [JHead, if_neg hne] at hv
    subst hv
    exact parse_half hk hb hL
theorem back_all {h : Int} (h1 : -2000000000000000 ≤ h) (h2 : h ≤ 2000000000000000) : ∃ s, Back h s := by
  by_cases he : h % 2 = 0
  · obtain ⟨i, rfl⟩ : ∃ i, h = 2 * i := ⟨h / 2, by omega⟩
    exact ⟨_, back_even i (by omega) (by omega)⟩
  · exact ⟨_, back_odd (k := (h.natAbs - 1) / 2) (by omega) (by omega)⟩
end Go.Proofs.YtbdciilkapgfjaaGreatDoor

namespace Go.Proofs.YtbdciilkapgfjaaGreatDoor
open Go.RowKit

theorem str_jok {s : ByteArray} (h : s.size ≤ 1000) : JOK (.str s) := .leafs (by simp [J.half]) (by simp only [J.text]; omega) rfl rfl
theorem IToString_back {h : Int} {s : ByteArray} (hB : Back h s) (hj : JOK (.num h)) (c : VC) (w : World) (S : Nat → Prop) (hv : VR w S (.num h) c) (hS : ∀ b, S b → b < w.heap.size) :
    Calls Tryz.prog 6 #[c.val] w fun e w' => ∃ c', e = .returned (resVal c' 0) ∧ VR w' (New w.heap.size w') (.str s) c' ∧ Below w.heap.size w w' :=
  IToString_any (.num h) (.value (.str s)) c w S hj hv hS (by simp) (fun j' e => by cases e; exact JOK.jw _ (Nat.le_refl _) (str_jok hB.small)) fun v w1 S1 hJ _ => by
    obtain ⟨h1, h2⟩ := hB.enc v hJ.head
    refine (ZzToString_any h1 h2 w1).mono ?_
    rintro e w' ⟨rfl, hb⟩
    exact ⟨_, rfl, JR.leaf rfl rfl (fun m e => by cases e), hb⟩
theorem IToNumber_back {h : Int} {s : ByteArray} (hB : Back h s) (hj : JOK (.num h)) (c : VC) (w : World) (hL : Laid w) (S : Nat → Prop) (hv : VR w S (.str s) c) (hS : ∀ b, S b → b < w.heap.size) :
    Calls Tryz.prog 5 #[c.val] w fun e w' => ∃ c', e = .returned (resVal c' 0) ∧ VR w' (New w.heap.size w') (.num h) c' ∧ Below w.heap.size w w' :=
  IToNumber_any (.str s) (.value (.num h)) c w S (str_jok hB.small) hv hS (by simp) (fun j' e => by cases e; exact JOK.jw _ (Nat.le_refl _) hj) fun v w1 S1 hb1 hJ _ => by
    have hv := hJ.head
    simp only [JHead] at hv
    subst hv
    refine (ZzNumber_of (funcToNumber_str (v := if h % 2 = 0 then .iface 3 (.int .i64 (h / 2)) else .iface 39 (.float .f64 (fb h))) hB.num (fun w2 hb2 => hB.parse w2 _ (hL.lift (hb1.trans (hb2.mono hb1.size))) rfl))).mono ?_
    rintro e w' ⟨rfl, hb⟩
    exact ⟨_, rfl, JR.leaf rfl rfl (fun m e => by cases e), hb⟩

/-- A Res with a text, and a Value that is one. -/
def ResStr (s : ByteArray) : Value → (Nat → Prop) → World → Prop := fun v _ _ => ∃ c, v = resVal c 0 ∧ Head (.str s) c
theorem resStr_st {s : ByteArray} : ∀ v S w w', ResStr s v S w → Same S w w' → ResStr s v S w' := fun _ _ _ _ h _ => h
def ValStr (s : ByteArray) : Value → (Nat → Prop) → World → Prop := fun v _ _ => ∃ c, v = VC.val c ∧ Head (.str s) c
theorem valStr_st {s : ByteArray} : ∀ v S w w', ValStr s v S w → Same S w w' → ValStr s v S w' := fun _ _ _ _ h _ => h
theorem VR.of_str {s : ByteArray} {c : VC} (h : Head (.str s) c) (w : World) (S : Nat → Prop) : VR w S (.str s) c := by
  rw [VR]
  exact ⟨h, fun i hi => absurd hi (by simp [J.list]), fun i hi => absurd hi (by simp [J.ents]), fun i hi => absurd hi (by simp [J.ents])⟩
theorem VR.of_num {h : Int} (w : World) (S : Nat → Prop) : VR w S (.num h) ⟨3, h, ByteArray.empty, none, 0, 0, none, 0, 0, none, 0, 0⟩ := VR.num _ _ _
theorem field_resVal (c : VC) (e : Int) (w : World) : (Instr.field 29 (resVal c e) 0).run Tryz.prog w = .ok (VC.val c) w := by
  unfold resVal VC.val VC.arr
  kernel_rfl

theorem run_fieldV {o : Oper} {x : Operand} {t : TypeId} {f : Nat} {v v' : Value} (ho : o.op = .field t x f) {b : Act} {w : World} (e : b.eval x = v) (hr : (Instr.field t v f).run Tryz.prog w = .ok v' w) : (execOp b.eval o).run Tryz.prog w = .ok (.value v') w := by
  unfold execOp; simp only [ho, e, Sem.run_bind, hr, Sem.run_pure, Result.andThen_ok]

set_option maxRecDepth 100000 in
set_option maxHeartbeats 2000000 in
theorem FnNumberBack_of {h : Int} {w : World} (hL : Laid w) (hback : -2000000000000000 ≤ h → h ≤ 2000000000000000 → ∃ s, Back h s) :
    Calls Tryz.prog 3 #[.int .i64 h] w (TruePost w) := by
  by_cases h1 : -2000000000000000 ≤ h
  · by_cases h2 : h ≤ 2000000000000000
    · obtain ⟨s, hB⟩ := hback h1 h2
      have hj : JOK (.num h) := .leafs (by simp only [J.half]; omega) (by simp [J.text, ByteArray.size]) rfl rfl
      have TS := Lib.hid (fun (w' : World) => IToString_back hB hj ⟨3, h, ByteArray.empty, none, 0, 0, none, 0, 0, none, 0, 0⟩ w' (fun _ => False) (VR.of_num _ _) (fun _ h => h.elim))
      have TN := Lib.hid (fun (w' : World) (hb : Below w.heap.size w w') (c : VC) (hc : Head (.str s) c) => IToNumber_back hB hj c w' (hL.lift hb) (fun _ => False) (VR.of_str hc _ _) (fun _ h => h.elim))
      have HJ := Lib.hid hj
      have d1 : decide (h < (-2000000000000000 : Int)) = false := decide_eq_false (by omega)
      have d2 : decide ((2000000000000000 : Int) < h) = false := decide_eq_false (by omega)
      clear hback h1 h2 hB hj
      go_enter Tryz.func3, Tryz.ntmps3
      go_upto_region 4 with fail
      have BX : Hid (Box (w.alloc (.cells #[.int .i64 3, .int .i64 h, .string ⟨#[]⟩, .slice none 0 0, .slice none 0 0, .slice none 0 0] 26)) w.heap.size ⟨3, h, ByteArray.empty, none, 0, 0, none, 0, 0, none, 0, 0⟩) := Lib.hid (heap_alloc_at _ _)
      have BL : Hid (Below w.heap.size w (w.alloc (.cells #[.int .i64 3, .int .i64 h, .string ⟨#[]⟩, .slice none 0 0, .slice none 0 0, .slice none 0 0] 26))) := Lib.hid ((Below.refl _ _).alloc (Nat.le_refl _) _)
      obtain ⟨L, hL⟩ : ∃ L : List KnE, L = [.v (VC.val ⟨3, h, ByteArray.empty, none, 0, 0, none, 0, 0, none, 0, 0⟩), .gen none (ResStr s) resStr_st, .gen none (ValStr s) valStr_st, .r (.num h), .v (VC.val ⟨3, h, ByteArray.empty, none, 0, 0, none, 0, 0, none, 0, 0⟩), .v (.bool true), .v (.bool true)] := ⟨_, rfl⟩
      have FAR : ∀ {b : Nat}, ∀ k ∈ L, k.old ≠ some b := by
        intro b k hk
        rw [hL] at hk
        simp only [List.mem_cons, List.not_mem_nil, or_false] at hk
        rcases hk with rfl | rfl | rfl | rfl | rfl | rfl | rfl <;> (intro e; cases e)
      subst hL
      refine planK 7 18 [(0, 12), (1, 13), (2, 14), (3, 15), (4, 16), (5, 17), (6, 2)] [(3, (.pointer (some ⟨w.heap.size, 0, none⟩)))] [.v (VC.val ⟨3, h, ByteArray.empty, none, 0, 0, none, 0, 0, none, 0, 0⟩), .gen none (ResStr s) resStr_st, .gen none (ValStr s) valStr_st, .r (.num h), .v (VC.val ⟨3, h, ByteArray.empty, none, 0, 0, none, 0, 0, none, 0, 0⟩), .v (.bool true), .v (.bool true)] (by kernel_rfl) (by kernel_rfl) rfl ?_ (by kernel_rfl) (by rfl) (by simp) ?_ (by kernel_rfl) ?_ ?_
      · intro p hp
        simp only [List.mem_cons, List.not_mem_nil, or_false] at hp
        rcases hp with rfl
        rfl
      · intro k hk b hb
        exact absurd hb (FAR k hk)
      · intro i' o ho hT
        rcases i' with _ | _ | _ | _ | _ | _ | _ | i'
        · obtain rfl := Option.some.inj ho
          exact kn_load6 3 (by rfl) rfl rfl (by simp) BX.out FAR
        · obtain rfl := Option.some.inj ho
          exact kn_callG 6 #[.tmp 12] _ #[VC.val ⟨3, h, ByteArray.empty, none, 0, 0, none, 0, 0, none, 0, 0⟩] [(0, 12, VC.val ⟨3, h, ByteArray.empty, none, 0, 0, none, 0, 0, none, 0, 0⟩)] (enters_of Tryz.func6 (by kernel_rfl) rfl) (by rfl) (by rfl) rfl rfl rfl (uses1 (by simp) rfl (by kernel_rfl)) (fun b hu => by simp only [List.map_toArray, List.map_cons, List.map_nil, hu _ List.mem_cons_self]) (fun w' _ => (TS.out w').mono (by rintro e w'' ⟨c, rfl, hv, hb⟩; exact ⟨_, fun _ => False, rfl, ⟨c, rfl, hv.head⟩, fun b h => h.elim, hb⟩))
        · obtain rfl := Option.some.inj ho
          exact kn_runM 1 13 rfl rfl (by simp) rfl rfl (by kernel_rfl) (by rfl) (fun b w' vy Sy hy e => by obtain ⟨c, rfl, hc⟩ := hy; exact ⟨VC.val c, run_fieldV rfl e (field_resVal c 0 w'), c, rfl, hc⟩)
        · obtain rfl := Option.some.inj ho
          exact kn_callM 5 #[.tmp 14] _ (fun vy => #[vy]) [] 2 14 (enters_of Tryz.func5 (by kernel_rfl) rfl) (by rfl) (by rfl) rfl rfl rfl (fun p hp => by cases hp) (by simp) rfl rfl (by kernel_rfl) (by rfl) (fun b vy _ hy => by simp only [List.map_toArray, List.map_cons, List.map_nil, hy]) (fun w' vy Sy hbw hy _ => by obtain ⟨c, rfl, hc⟩ := hy; exact (TN.out w' (BL.out.trans (hbw.mono BL.out.size)) c hc).mono (by rintro e w'' ⟨c2, rfl, hv, hb⟩; exact ⟨_, New w'.heap.size w'', rfl, ⟨c2, rfl, hv⟩, fun b h => h, hb⟩))
        · obtain rfl := Option.some.inj ho
          exact kn_load6 3 (by rfl) rfl rfl (by simp) BX.out FAR
        · obtain rfl := Option.some.inj ho
          exact kn_callM 4 #[.tmp 15, .tmp 16] _ (fun vy => #[vy, VC.val ⟨3, h, ByteArray.empty, none, 0, 0, none, 0, 0, none, 0, 0⟩]) [(4, 16, VC.val ⟨3, h, ByteArray.empty, none, 0, 0, none, 0, 0, none, 0, 0⟩)] 3 15 (enters_of Tryz.func4 (by kernel_rfl) rfl) (by rfl) (by rfl) rfl rfl rfl (uses1 (by simp) rfl (by kernel_rfl)) (by simp) rfl rfl (by kernel_rfl) (by rfl) (fun b vy hu hy => by simp only [List.map_toArray, List.map_cons, List.map_nil, hy, hu _ List.mem_cons_self]) (fun w' vy Sy _ hy hSy => by obtain ⟨c, rfl, hv⟩ := hy; exact (given_value (.num h) c ⟨3, h, ByteArray.empty, none, 0, 0, none, 0, 0, none, 0, 0⟩ w' Sy HJ.out hv (VR.of_num _ _) (fun b hb => (hSy b hb).2)).mono (by rintro e w'' ⟨rfl, hb⟩; exact ⟨_, fun _ => False, rfl, rfl, fun b h => h.elim, hb⟩))
        · obtain rfl := Option.some.inj ho
          exact kn_assign1 5 17 (by rfl) rfl rfl (by simp) rfl (by kernel_rfl)
        · simp at hT
          omega
      · intro u S' w' hp hR fuel listed hsz' hl hf
        obtain rfl := listed_eq hsz' hl
        have hlow := planE_low hp (by rfl)
        have e6 : u 6 = .bool true := planE_v hp (by rfl) (j := 6) (x := .bool true) rfl rfl
        have BW := Lib.hid (BL.out.trans (hlow.mono BL.out.size))
        clear hf hl hsz' hlow hp hR
        refine wpAny_done (by kernel_rfl) ?_ fuel
        simp only [frameOf, frameL, List.zipIdx_cons, List.zipIdx_nil, Act.put, List.setIfInBounds_toArray, List.set_cons_zero, List.set_cons_succ, Nat.zero_add, Nat.reduceAdd]
        go_wp2_with fail
        go_ret
        exact ⟨by rw [e6]; rfl, BW.out⟩
    · have d1 : decide (h < (-2000000000000000 : Int)) = false := decide_eq_false (by omega)
      have d2 : decide ((2000000000000000 : Int) < h) = true := decide_eq_true (by omega)
      clear hback h1 h2
      go_enter Tryz.func3, Tryz.ntmps3
      go_wp2_with fail
      go_ret
      exact ⟨rfl, Below.refl _ _⟩
  · have d1 : decide (h < (-2000000000000000 : Int)) = true := decide_eq_true (by omega)
    clear hback h1
    go_enter Tryz.func3, Tryz.ntmps3
    go_wp2_with fail
    go_ret
    exact ⟨rfl, Below.refl _ _⟩

theorem FnNumberBack_any (h : Int) {w : World} (hL : Laid w) : Calls Tryz.prog 3 #[.int .i64 h] w (TruePost w) := FnNumberBack_of hL back_all
end Go.Proofs.YtbdciilkapgfjaaGreatDoor
