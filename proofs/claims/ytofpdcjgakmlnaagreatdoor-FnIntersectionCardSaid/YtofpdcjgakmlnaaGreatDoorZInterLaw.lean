/- A part of the proof. -/
import Derived.Test.YtofpdcjgakmlnaaGreatDoorM12
import Derived.Test.YtofpdcjgakmlnaaGreatDoorM6
import Derived.Test.YtofpdcjgakmlnaaGreatDoorM30
import Derived.Test.YtofpdcjgakmlnaaGreatDoorZKnI
import Derived.LoopTactic
import Derived.Deep.DeepCutAuto
import Derived.Deep.CutBlock
namespace Go.Proofs.YtofpdcjgakmlnaaGreatDoor
open Go.RowKit

/-- A list's Value out of a row. -/
def rowVC (a : Option Addr) (n c : Nat) : VC := ⟨5, 0, ByteArray.empty, a, n, c, none, 0, 0, none, 0, 0⟩

/-- Two Values side by side. -/
theorem pair_at2 (w : World) (a c : VC) : At6 (w.alloc (.cells #[.int .i64 a.k, .int .i64 a.h, .string a.s, .slice a.la a.ll a.lc, .slice a.ka a.kl a.kc, .slice a.va a.vl a.vc, .int .i64 c.k, .int .i64 c.h, .string c.s, .slice c.la c.ll c.lc, .slice c.ka c.kl c.kc, .slice c.va c.vl c.vc] 27)) w.heap.size 0 a ∧
    At6 (w.alloc (.cells #[.int .i64 a.k, .int .i64 a.h, .string a.s, .slice a.la a.ll a.lc, .slice a.ka a.kl a.kc, .slice a.va a.vl a.vc, .int .i64 c.k, .int .i64 c.h, .string c.s, .slice c.la c.ll c.lc, .slice c.ka c.kl c.kc, .slice c.va c.vl c.vc] 27)) w.heap.size 6 c := by
  refine ⟨⟨?_, ?_, ?_, ?_, ?_, ?_⟩, ⟨?_, ?_, ?_, ?_, ?_, ?_⟩⟩ <;> simp [World.cell?_alloc_at]

/-- Two outcomes in boxes of their own, made one behind the other. -/
theorem two_res (w : World) (a c : VC) : Below w.heap.size w ((w.alloc (.cells #[.int .i64 a.k, .int .i64 a.h, .string a.s, .slice a.la a.ll a.lc, .slice a.ka a.kl a.kc, .slice a.va a.vl a.vc, .int .i64 0] 30)).alloc (.cells #[.int .i64 c.k, .int .i64 c.h, .string c.s, .slice c.la c.ll c.lc, .slice c.ka c.kl c.kc, .slice c.va c.vl c.vc, .int .i64 0] 30)) ∧
    ResBox ((w.alloc (.cells #[.int .i64 a.k, .int .i64 a.h, .string a.s, .slice a.la a.ll a.lc, .slice a.ka a.kl a.kc, .slice a.va a.vl a.vc, .int .i64 0] 30)).alloc (.cells #[.int .i64 c.k, .int .i64 c.h, .string c.s, .slice c.la c.ll c.lc, .slice c.ka c.kl c.kc, .slice c.va c.vl c.vc, .int .i64 0] 30)) w.heap.size a 0 ∧
    ResBox ((w.alloc (.cells #[.int .i64 a.k, .int .i64 a.h, .string a.s, .slice a.la a.ll a.lc, .slice a.ka a.kl a.kc, .slice a.va a.vl a.vc, .int .i64 0] 30)).alloc (.cells #[.int .i64 c.k, .int .i64 c.h, .string c.s, .slice c.la c.ll c.lc, .slice c.ka c.kl c.kc, .slice c.va c.vl c.vc, .int .i64 0] 30)) (w.heap.size + 1) c 0 := by
  refine ⟨((Below.refl _ _).alloc (Nat.le_refl _) _).alloc (by simp) _, ?_, ?_⟩
  · exact (resbox_alloc w a 0).below ((Below.refl (w.heap.size + 1) _).alloc (by simp) _) (by omega)
  · have := resbox_alloc (w.alloc (.cells #[.int .i64 a.k, .int .i64 a.h, .string a.s, .slice a.la a.ll a.lc, .slice a.ka a.kl a.kc, .slice a.va a.vl a.vc, .int .i64 0] 30)) c 0
    simp only [World.size_alloc] at this
    exact this

/-- What is left of both, in boxes of their own. -/
structure TwoRes (wA : World) (s1 s2 : List J) (Nx Ny : Nat) (cx cy : VC) (wx : World) : Prop where
  x : ResBox wx Nx cx 0
  y : ResBox wx Ny cy 0
  vx : VR wx (· < wx.heap.size) (.arr s1) cx
  vy : VR wx (· < wx.heap.size) (.arr s2) cy
  low : Below wA.heap.size wA wx

set_option maxRecDepth 100000 in
set_option maxHeartbeats 4000000 in
theorem FnIntersection_any (ta tb : T) (a1 : Option Addr) (n1 c1 : Nat) (a2 : Option Addr) (n2 c2 : Nat) (B : Nat) {w : World} (hB : B ≤ w.heap.size) (h40 : LB ≤ B) (hT : Tabs w) (ha : TR w B ta (rowVC a1 n1 c1)) (hb : TR w B tb (rowVC a2 n2 c2)) :
    Calls Tryz.prog 3 #[.slice a1 n1 c1, .slice a2 n2 c2] w (TruePost w) := by
  have AR := Lib.hid larray_any
  have HA := Lib.hid ha; have HC := Lib.hid hb; have HT := Lib.hid hT
  clear ha hb hT
  go_enter Tryz.func3, Tryz.ntmps3
  by_cases hg : (n1 : Int) ≤ 2147483647 ∧ (n2 : Int) ≤ 2147483647
  · obtain ⟨g1, g2⟩ := hg
    have d1 : decide ((2147483647 : Int) < n1) = false := decide_eq_false (by omega)
    have d2 : decide ((2147483647 : Int) < n2) = false := decide_eq_false (by omega)
    go_wp2_with fail
    refine (AR.out _ _ _ _).mono ?_
    rintro e w1 ⟨rfl, hb1⟩
    have W1 := Lib.hid hb1
    clear hb1
    unfold VC.val VC.arr
    go_wp2_with fail
    refine (AR.out _ _ _ _).mono ?_
    rintro e w2 ⟨rfl, hb2⟩
    have W2 := Lib.hid (W1.out.trans (hb2.mono W1.out.size))
    clear hb2
    unfold VC.val VC.arr
    go_wp2_with fail
    have hp := pair_at2 w2 (rowVC a1 n1 c1) (rowVC a2 n2 c2)
    unfold rowVC at hp
    have bal : ∀ o, Below w.heap.size w (w2.alloc o) := fun o => W2.out.alloc W2.out.size o
    have ral : ∀ o, TR (w2.alloc o) B ta (rowVC a1 n1 c1) ∧ TR (w2.alloc o) B tb (rowVC a2 n2 c2) := fun o => ⟨HA.out.go ((bal o).mono hB) (Nat.le_refl _), HC.out.go ((bal o).mono hB) (Nat.le_refl _)⟩
    have F := fits_any [ta, tb] (fun i => if i = 0 then rowVC a1 n1 c1 else rowVC a2 n2 c2) w2.heap.size 2 B (w := w2.alloc _) (by simp) (by have := W2.out.size; simp; omega) h40 (HT.out.below ((bal _).mono hB) h40) (by simp) (fun i hi => by
      have : i = 0 ∨ i = 1 := by simp at hi; omega
      rcases this with rfl | rfl
      · exact ⟨hp.1, (ral _).1⟩
      · exact ⟨hp.2, (ral _).2⟩)
    refine F.mono ?_
    rintro e w3 ⟨b3, rfl, hgood, hb3⟩
    clear F hp ral bal
    have W3 := Lib.hid ((W2.out.alloc W2.out.size _).trans (hb3.mono (by have := W2.out.size; simp; omega)))
    have HG := Lib.hid hgood
    clear hgood hb3
    cases b3 with
    | false =>
      go_wp2_with fail
      go_ret
      exact ⟨rfl, W3.out⟩
    | true =>
      have GA : Good ta ∧ ta.n ≤ 400 := HG.out rfl 0 (by simp)
      have GB : Good tb ∧ tb.n ≤ 400 := HG.out rfl 1 (by simp)
      have VA := Lib.hid ((VR.of GA.1 HA.out).go (w' := w3) (S' := (· < B)) (fun b hb => W3.out.block b (by omega)) (fun _ h => h))
      have VB := Lib.hid ((VR.of GB.1 HC.out).go (w' := w3) (S' := (· < B)) (fun b hb => W3.out.block b (by omega)) (fun _ h => h))
      have JA := JOK.of GA.1 GA.2
      have JB := JOK.of GB.1 GB.2
      obtain ⟨l1, f1, hl1⟩ := VA.out.head.arr rfl
      obtain ⟨l2, f2, hl2⟩ := VB.out.head.arr rfl
      have HL1 := Lib.hid (show l1.length = n1 from hl1)
      clear hl1 hl2
      rw [f1] at VA JA
      rw [f2] at VB JB
      clear f1 f2
      obtain ⟨N, hN1, hN2⟩ : ∃ N, (∀ x ∈ l1, SizeOf.sizeOf x ≤ N) ∧ ∀ x ∈ l2, SizeOf.sizeOf x ≤ N := ⟨SizeOf.sizeOf (J.arr l1) + SizeOf.sizeOf (J.arr l2), fun x hx => by have := List.sizeOf_lt_of_mem hx; simp only [J.arr.sizeOf_spec]; omega, fun x hx => by have := List.sizeOf_lt_of_mem hx; simp only [J.arr.sizeOf_spec]; omega⟩
      have SB1 := Lib.hid fun (w' : World) (h : Below w3.heap.size w3 w') => IOpSub_arr N (w := w') JA JB (VA.out.go (fun b hb => h.block b (by have := W3.out.size; omega)) (fun _ h => h)) (VB.out.go (fun b hb => h.block b (by have := W3.out.size; omega)) (fun _ h => h)) (fun b hb => by have := W3.out.size; have := h.size; omega) hN1
      have SB2 := Lib.hid fun (w' : World) (h : Below w3.heap.size w3 w') => IOpSub_arr N (w := w') JB JA (VB.out.go (fun b hb => h.block b (by have := W3.out.size; omega)) (fun _ h => h)) (VA.out.go (fun b hb => h.block b (by have := W3.out.size; omega)) (fun _ h => h)) (fun b hb => by have := W3.out.size; have := h.size; omega) hN2
      unfold rowVC VC.val VC.arr at SB1 SB2
      go_wp2_with fail
      refine (AR.out _ _ _ _).mono ?_
      rintro e w4 ⟨rfl, hb4⟩
      unfold VC.val VC.arr
      go_wp2_with fail
      refine (AR.out _ _ _ _).mono ?_
      rintro e w5 ⟨rfl, hb5⟩
      unfold VC.val VC.arr
      have Q5 := Lib.hid (hb4.trans (hb5.mono hb4.size))
      clear hb4 hb5
      go_wp2_with fail
      refine (SB1.out _ Q5.out).mono ?_
      rintro e w6 ⟨x1, rfl, hv1, hb6⟩
      have V1 := Lib.hid hv1
      have Q6 := Lib.hid (Q5.out.trans (hb6.mono Q5.out.size))
      clear hv1 hb6
      unfold resVal
      go_wp2_with fail
      refine (AR.out _ _ _ _).mono ?_
      rintro e w7 ⟨rfl, hb7⟩
      unfold VC.val VC.arr
      go_wp2_with fail
      refine (AR.out _ _ _ _).mono ?_
      rintro e w8 ⟨rfl, hb8⟩
      unfold VC.val VC.arr
      have Q68 := Lib.hid (hb7.trans (hb8.mono hb7.size))
      have Q8 := Lib.hid (Q6.out.trans (Q68.out.mono Q6.out.size))
      clear hb7 hb8
      go_wp2_with fail
      refine (SB2.out _ Q8.out).mono ?_
      rintro e w9 ⟨x2, rfl, hv2, hb9⟩
      have V2 := Lib.hid hv2
      have Q89 := Lib.hid hb9
      have Q9 := Lib.hid (Q8.out.trans (hb9.mono Q8.out.size))
      clear hv2 hb9
      unfold resVal
      have R6 := Lib.hid (Q68.out.trans (Q89.out.mono Q68.out.size))
      have VA9 := Lib.hid (VA.out.go (w' := w9) (S' := (· < w9.heap.size)) (fun b hb => Q9.out.block b (by have := W3.out.size; omega)) (fun b hb => by have := W3.out.size; have := Q9.out.size; omega))
      have VB9 := Lib.hid (VB.out.go (w' := w9) (S' := (· < w9.heap.size)) (fun b hb => Q9.out.block b (by have := W3.out.size; omega)) (fun b hb => by have := W3.out.size; have := Q9.out.size; omega))
      have V19 := Lib.hid (V1.out.go (w' := w9) (S' := (· < w9.heap.size)) (fun b hb => R6.out.block b hb.2) (fun b hb => Nat.lt_of_lt_of_le hb.2 R6.out.size))
      have V29 := Lib.hid (V2.out.mono (S' := (· < w9.heap.size)) (fun b hb => hb.2))
      have W9 := Lib.hid (W3.out.trans (Q9.out.mono W3.out.size))
      clear SB1 SB2 Q5 Q6 Q68 Q8 Q89 Q9 R6 V1 V2 VA VB
      go_upto_region 6 with fail
      have pr := two_res w9 x1 x2
      obtain ⟨wA, hwA⟩ : ∃ wA, wA = ((w9.alloc (.cells #[.int .i64 x1.k, .int .i64 x1.h, .string x1.s, .slice x1.la x1.ll x1.lc, .slice x1.ka x1.kl x1.kc, .slice x1.va x1.vl x1.vc, .int .i64 0] 30)).alloc (.cells #[.int .i64 x2.k, .int .i64 x2.h, .string x2.s, .slice x2.la x2.ll x2.lc, .slice x2.ka x2.kl x2.kc, .slice x2.va x2.vl x2.vc, .int .i64 0] 30)) := ⟨_, rfl⟩
      rw [← hwA] at pr ⊢
      have BA := Lib.hid pr.1; have X1 := Lib.hid pr.2.1; have X2 := Lib.hid pr.2.2
      clear hwA pr
      have X1A := Lib.hid X1.out.at6; have X2A := Lib.hid X2.out.at6
      obtain ⟨s1, hs1⟩ : ∃ s, s = subJ N l1 (subJ N l1 l2) := ⟨_, rfl⟩
      obtain ⟨s2, hs2⟩ : ∃ s, s = subJ N l2 (subJ N l2 l1) := ⟨_, rfl⟩
      have CX := Lib.hid fun (w' : World) (hb : Below wA.heap.size wA w') =>
        have b' := BA.out.trans (hb.mono BA.out.size)
        IOpSub_arr N (w := w') (S := (· < w9.heap.size)) JA (subJ_ok (N := N) (r := l2) JA) (VA9.out.go (fun b h => b'.block b h) (fun _ h => h)) (V19.out.go (fun b h => b'.block b h) (fun _ h => h)) (fun b h => Nat.lt_of_lt_of_le h b'.size) hN1
      have CY := Lib.hid fun (w' : World) (hb : Below wA.heap.size wA w') =>
        have b' := BA.out.trans (hb.mono BA.out.size)
        IOpSub_arr N (w := w') (S := (· < w9.heap.size)) JB (subJ_ok (N := N) (r := l1) JB) (VB9.out.go (fun b h => b'.block b h) (fun _ h => h)) (V29.out.go (fun b h => b'.block b h) (fun _ h => h)) (fun b h => Nat.lt_of_lt_of_le h b'.size) hN2
      rw [← hs1] at CX
      rw [← hs2] at CY
      have ok1 : JOK (.arr s1) := by rw [hs1]; exact subJ_ok JA
      have ok2 : JOK (.arr s2) := by rw [hs2]; exact subJ_ok JB
      have m1 : ∀ x ∈ s1, SizeOf.sizeOf x ≤ N := fun x hx => by rw [hs1] at hx; exact hN1 x ((List.mem_filter.1 hx).1)
      have m2 : ∀ x ∈ s2, SizeOf.sizeOf x ≤ N := fun x hx => by rw [hs2] at hx; exact hN2 x ((List.mem_filter.1 hx).1)
      have SAME := Lib.hid (show uqJ N s1 = uqJ N s2 by rw [hs1, hs2]; exact both_same hN1 hN2)
      have LEN := Lib.hid (show x1.ll + s1.length = n1 by rw [V19.out.head.ll, hs1, ← HL1.out]; exact subJ_len2 hN1)
      have LE4 := Lib.hid (show n1 ≤ 400 by rw [← HL1.out]; exact JA.len)
      have OK1 := Lib.hid ok1; have OK2 := Lib.hid ok2; have M1 := Lib.hid m1; have M2 := Lib.hid m2
      have WA := Lib.hid (W9.out.trans (BA.out.mono W9.out.size))
      have LT5 := Lib.hid X1.out.lt; have LT6 := Lib.hid X2.out.lt
      clear hs1 hs2 JA JB hN1 hN2 VA9 VB9 V19 V29 ok1 ok2 m1 m2 BA HL1 W9 HG GA GB HA HC HT AR W1 W2 W3
      go_cut [7, 8] (fun u v wx => ∃ Nx Ny cx cy, u = .pointer (some ⟨Nx, 0, none⟩) ∧ v = .pointer (some ⟨Ny, 0, none⟩) ∧ TwoRes wA s1 s2 Nx Ny cx cy wx)
      case first =>
        rename_i J0 K0 hJ hM
        have lt5 := LT5.out; have lt6 := LT6.out
        refine plan_regionG 14 97 [(0, 35), (1, 36), (2, 37), (3, 38), (4, 39), (5, 40), (6, 41), (7, 42), (8, 43), (9, 44), (10, 7), (11, 8)] [(0, (.slice a1 n1 c1)), (1, (.slice a2 n2 c2)), (5, (.pointer (some ⟨w9.heap.size, 0, none⟩))), (6, (.pointer (some ⟨w9.heap.size + 1, 0, none⟩)))]
          (knIt [.v (.slice a1 n1 c1), .v (VC.val ⟨5, 0, ByteArray.empty, a1, n1, c1, none, 0, 0, none, 0, 0⟩), .v (.pointer (some ⟨w9.heap.size, 0, none⟩)), .v (VC.val x1), .r (.arr s1), .v (.slice a2 n2 c2), .v (VC.val ⟨5, 0, ByteArray.empty, a2, n2, c2, none, 0, 0, none, 0, 0⟩), .v (.pointer (some ⟨w9.heap.size + 1, 0, none⟩)), .v (VC.val x2), .r (.arr s2), .box, .box, .put 10 4, .put 11 9])
          (by kernel_rfl) (by kernel_rfl) rfl ?_ (knIt_st _) (knIt_none _) ?_ (knIt_one _ rfl) (knIt_rest _ 14 rfl) ?_ ?_
        · intro p hp
          simp only [List.mem_cons, List.not_mem_nil, or_false] at hp
          rcases hp with rfl | rfl | rfl | rfl <;> rfl
        · intro i o g want ho hg
          rcases i with _ | _ | _ | _ | _ | _ | _ | _ | _ | _ | _ | _ | _ | _ | i
          · obtain rfl := Option.some.inj ho
            cases hg
          · obtain rfl := Option.some.inj ho
            cases hg
          · obtain rfl := Option.some.inj ho
            cases hg
          · obtain rfl := Option.some.inj ho
            cases hg
          · obtain rfl := Option.some.inj ho
            cases hg
          · obtain rfl := Option.some.inj ho
            cases hg
          · obtain rfl := Option.some.inj ho
            cases hg
          · obtain rfl := Option.some.inj ho
            cases hg
          · obtain rfl := Option.some.inj ho
            cases hg
          · obtain rfl := Option.some.inj ho
            cases hg
          · obtain rfl := Option.some.inj ho
            cases hg
          · obtain rfl := Option.some.inj ho
            cases hg
          · obtain rfl := Option.some.inj ho
            cases hg
          · obtain rfl := Option.some.inj ho
            cases hg
          · have := (Array.getElem?_eq_some_iff.1 ho).1
            exact absurd this (Nat.not_lt.2 (Nat.le_add_left 14 i))
        · intro i o ho
          rcases i with _ | _ | _ | _ | _ | _ | _ | _ | _ | _ | _ | _ | _ | _ | i
          · obtain rfl := Option.some.inj ho
            exact step_move0 0 rfl rfl (knIt_none _) (by simp)
          · obtain rfl := Option.some.inj ho
            exact step_callV 5 #[.tmp 35] _ #[(.slice a1 n1 c1)] [(0, 35, (.slice a1 n1 c1))] (enters_of Tryz.func5 (by kernel_rfl) rfl) rfl (knIt_none _) rfl (fun p hp => by obtain rfl := List.mem_singleton.1 hp; exact ⟨by simp, rfl, by kernel_rfl⟩) (fun b hu _ => by simp only [List.map_toArray, List.map_cons, List.map_nil, hu _ List.mem_cons_self]) (fun w' _ => larray_any _ _ _ w')
          · obtain rfl := Option.some.inj ho
            exact step_field 30 0 5 rfl rfl (by simp) (fieldRes0 _)
          · obtain rfl := Option.some.inj ho
            exact step_load6 2 37 rfl rfl (knIt_none _) (by simp) rfl (by kernel_rfl) X1A.out lt5
          · obtain rfl := Option.some.inj ho
            exact step_callR 6 #[.tmp 36, .tmp 38] _ #[VC.val ⟨5, 0, ByteArray.empty, a1, n1, c1, none, 0, 0, none, 0, 0⟩, VC.val x1] [(1, 36, VC.val ⟨5, 0, ByteArray.empty, a1, n1, c1, none, 0, 0, none, 0, 0⟩), (3, 38, VC.val x1)] (enters_of Tryz.func6 (by kernel_rfl) rfl) rfl (knIt_none _) rfl (fun p hp => by
              rcases List.mem_cons.1 hp with rfl | hp
              · exact ⟨by simp, rfl, by kernel_rfl⟩
              · obtain rfl := List.mem_singleton.1 hp; exact ⟨by simp, rfl, by kernel_rfl⟩) (fun b hu _ => by simp only [List.map_toArray, List.map_cons, List.map_nil, hu _ List.mem_cons_self, hu _ (List.mem_cons_of_mem _ List.mem_cons_self)]) (CX.out)
          · obtain rfl := Option.some.inj ho
            exact step_move0 1 rfl rfl (knIt_none _) (by simp)
          · obtain rfl := Option.some.inj ho
            exact step_callV 5 #[.tmp 40] _ #[(.slice a2 n2 c2)] [(5, 40, (.slice a2 n2 c2))] (enters_of Tryz.func5 (by kernel_rfl) rfl) rfl (knIt_none _) rfl (fun p hp => by obtain rfl := List.mem_singleton.1 hp; exact ⟨by simp, rfl, by kernel_rfl⟩) (fun b hu _ => by simp only [List.map_toArray, List.map_cons, List.map_nil, hu _ List.mem_cons_self]) (fun w' _ => larray_any _ _ _ w')
          · obtain rfl := Option.some.inj ho
            exact step_field 30 0 6 rfl rfl (by simp) (fieldRes0 _)
          · obtain rfl := Option.some.inj ho
            exact step_load6 7 42 rfl rfl (knIt_none _) (by simp) rfl (by kernel_rfl) X2A.out lt6
          · obtain rfl := Option.some.inj ho
            exact step_callR 6 #[.tmp 41, .tmp 43] _ #[VC.val ⟨5, 0, ByteArray.empty, a2, n2, c2, none, 0, 0, none, 0, 0⟩, VC.val x2] [(6, 41, VC.val ⟨5, 0, ByteArray.empty, a2, n2, c2, none, 0, 0, none, 0, 0⟩), (8, 43, VC.val x2)] (enters_of Tryz.func6 (by kernel_rfl) rfl) rfl (knIt_none _) rfl (fun p hp => by
              rcases List.mem_cons.1 hp with rfl | hp
              · exact ⟨by simp, rfl, by kernel_rfl⟩
              · obtain rfl := List.mem_singleton.1 hp; exact ⟨by simp, rfl, by kernel_rfl⟩) (fun b hu _ => by simp only [List.map_toArray, List.map_cons, List.map_nil, hu _ List.mem_cons_self, hu _ (List.mem_cons_of_mem _ List.mem_cons_self)]) (CY.out)
          · obtain rfl := Option.some.inj ho
            exact step_res rfl rfl
          · obtain rfl := Option.some.inj ho
            exact step_res rfl rfl
          · obtain rfl := Option.some.inj ho
            exact step_put1 10 4 7 39 rfl rfl rfl rfl (by simp) (by simp) (by kernel_rfl) (by kernel_rfl) rfl
          · obtain rfl := Option.some.inj ho
            exact step_put1 11 9 8 44 rfl rfl rfl rfl (by simp) (by simp) (by kernel_rfl) (by kernel_rfl) rfl
          · have := (Array.getElem?_eq_some_iff.1 ho).1
            exact absurd this (Nat.not_lt.2 (Nat.le_add_left 14 i))
        · intro u S w5 hp
          obtain ⟨Nx, cx, ex, lx, hx, vx⟩ := plan_res1 hp (i := 12) (b := 10) (s := 4) rfl rfl rfl
          obtain ⟨Ny, cy, ey, ly, hy, vy⟩ := plan_res1 hp (i := 13) (b := 11) (s := 9) rfl rfl rfl
          have b5 := hp.low (knIt_none _)
          have sx := fun b (h : S 4 b) => ((hp.val 4 _ _ rfl rfl).2 b h).2
          have sy := fun b (h : S 9 b) => ((hp.val 9 _ _ rfl rfl).2 b h).2
          have TH := Lib.hid (show TwoRes wA s1 s2 Nx Ny cx cy w5 from ⟨hx, hy, vx.mono sx, vy.mono sy, b5⟩)
          clear hp hx hy vx vy b5 sx sy
          simp only [frameOf, frameL, List.zipIdx_cons, List.zipIdx_nil, Act.put, List.setIfInBounds_toArray, List.set_cons_zero, List.set_cons_succ, Nat.zero_add, Nat.reduceAdd]
          refine hM _ _ (Met.intro (hJ _ _ ?_))
          repeat apply Exists.intro
          refine ⟨?rel, rfl⟩
          case rel => exact ⟨Nx, Ny, cx, cy, ex, ey, TH.out⟩
      case rest =>
        obtain ⟨Nx, Ny, cx, cy, rfl, rfl, hth⟩ := hcut
        rename World => w10
        have TH := Lib.hid hth
        have Y1 := Lib.hid (X1.out.below hth.low X1.out.lt); have Y2 := Lib.hid (X2.out.below hth.low X2.out.lt)
        have W10 := Lib.hid (WA.out.trans (hth.low.mono WA.out.size))
        have IU := Lib.hid (IUnique_arr N (w := w10) (S := (· < w10.heap.size)) OK1.out hth.vx (fun b h => h) M1.out)
        have SUM := Lib.hid (show x1.ll + cx.ll = n1 by rw [hth.vx.head.ll]; exact LEN.out)
        clear hth X1 X2 X1A X2A CX CY LT5 LT6 LEN WA
        unfold VC.val VC.arr at IU
        have e1 := Y1.out.c6; have e2 := Y2.out.c6; have e3 := TH.out.x.c6; have e4 := TH.out.y.c6
        have g0 := TH.out.x.c0; have g1 := TH.out.x.c1; have g2 := TH.out.x.c2; have g3 := TH.out.x.c3; have g4 := TH.out.x.c4; have g5 := TH.out.x.c5
        go_wp2_with fail
        refine IU.out.mono ?_
        rintro e w11 ⟨cu, rfl, hvu, hbu⟩
        have VU := Lib.hid (hvu.mono (S' := (· < w11.heap.size)) (fun b hb => hb.2))
        have BU := Lib.hid hbu
        clear IU hvu hbu e1 e2 e3 e4 g0 g1 g2 g3 g4 g5
        unfold resVal
        go_upto_region 10 with fail
        have pr := resbox_alloc w11 cu 0
        have pb : Below w11.heap.size w11 (w11.alloc (.cells #[.int .i64 cu.k, .int .i64 cu.h, .string cu.s, .slice cu.la cu.ll cu.lc, .slice cu.ka cu.kl cu.kc, .slice cu.va cu.vl cu.vc, .int .i64 0] 30)) := (Below.refl _ _).alloc (Nat.le_refl _) _
        obtain ⟨wC, hwC⟩ : ∃ wC, wC = (w11.alloc (.cells #[.int .i64 cu.k, .int .i64 cu.h, .string cu.s, .slice cu.la cu.ll cu.lc, .slice cu.ka cu.kl cu.kc, .slice cu.va cu.vl cu.vc, .int .i64 0] 30)) := ⟨_, rfl⟩
        rw [← hwC] at pr pb ⊢
        have BC := Lib.hid (BU.out.trans (pb.mono BU.out.size))
        have UBX := Lib.hid pr
        have U0 := Lib.hid (show wC.cell? ⟨w11.heap.size, 0, none⟩ = some (.int .i64 5) by rw [pr.c0, VU.out.head.k]; rfl)
        have U6 := Lib.hid pr.c6
        have UB := Lib.hid pr.at6
        have YB := Lib.hid (TH.out.y.below BC.out TH.out.y.lt).at6
        have L1 := Lib.hid (Y1.out.below BC.out Y1.out.lt).c3
        have LX := Lib.hid (TH.out.x.below BC.out TH.out.x.lt).c3
        have ltu' := Lib.hid pr.lt
        have lt5' := Lib.hid (Nat.lt_of_lt_of_le Y1.out.lt BC.out.size); have ltx' := Lib.hid (Nat.lt_of_lt_of_le TH.out.x.lt BC.out.size); have lty' := Lib.hid (Nat.lt_of_lt_of_le TH.out.y.lt BC.out.size)
        have SN := Lib.hid (show n1 ≤ 1000000 from Nat.le_trans LE4.out (by decide))
        have CU := Lib.hid fun (w' : World) (hb : Below wC.heap.size wC w') =>
          have b' := BC.out.trans (hb.mono BC.out.size)
          IUnique_arr N (w := w') (S := (· < w10.heap.size)) OK2.out (TH.out.vy.go (fun b h => b'.block b h) (fun _ h => h)) (fun b h => Nat.lt_of_lt_of_le h b'.size) M2.out
        have GX := Lib.hid fun (w' : World) (c : VC) (S : Nat → Prop) (hb : Below wC.heap.size wC w') (hV : VR w' S (.arr (uqJ N s2)) c) (hS : ∀ b, S b → b < w'.heap.size) =>
          have b' := pb.trans (hb.mono pb.size)
          given_value (.arr (uqJ N s2)) c cu w' (· < w'.heap.size) (uqJ_ok OK2.out M2.out) (hV.mono hS) (by rw [← SAME.out]; exact VU.out.go (fun b h => b'.block b h) (fun b h => Nat.lt_of_lt_of_le h b'.size)) (fun b h => h)
        have WC := Lib.hid (W10.out.trans (BC.out.mono W10.out.size))
        clear hwC pr pb BU VU
        go_cut [4] (fun v wx => v = .bool true ∧ Below w.heap.size w wx)
        case first =>
          rename_i J0 K0 hJ hM
          have lt5 := lt5'.out; have ltx := ltx'.out; have lty := lty'.out; have ltu := ltu'.out
          refine plan_regionG 32 97 [(0, 66), (1, 67), (2, 68), (3, 69), (4, 70), (5, 71), (6, 72), (7, 73), (8, 74), (9, 75), (10, 76), (11, 77), (12, 78), (13, 79), (14, 80), (15, 81), (16, 82), (17, 83), (18, 84), (19, 85), (20, 86), (21, 87), (22, 88), (23, 89), (24, 90), (25, 91), (26, 92), (27, 93), (28, 94), (29, 95), (30, 96), (31, 4)] [(0, (.slice a1 n1 c1)), (5, (.pointer (some ⟨w9.heap.size, 0, none⟩))), (7, (.pointer (some ⟨Nx, 0, none⟩))), (8, (.pointer (some ⟨Ny, 0, none⟩))), (9, (.pointer (some ⟨w11.heap.size, 0, none⟩)))]
            (knIt [.v (.pointer (some ⟨w9.heap.size, 0, none⟩)), .v (.pointer (some ⟨w9.heap.size, 3, none⟩)), .v (.slice x1.la x1.ll x1.lc), .v (.int .i64 (x1.ll : Int)), .v (.pointer (some ⟨Nx, 0, none⟩)), .v (.pointer (some ⟨Nx, 3, none⟩)), .v (.slice cx.la cx.ll cx.lc), .v (.int .i64 (cx.ll : Int)), .v (.int .i64 (n1 : Int)), .v (.slice a1 n1 c1), .v (.int .i64 (n1 : Int)), .v (.bool true), .v (.bool true), .v (.pointer (some ⟨w11.heap.size, 6, none⟩)), .v (.int .i64 0), .v (.bool true), .v (.bool true), .v (.bool true), .v (.pointer (some ⟨w11.heap.size, 0, none⟩)), .v (.pointer (some ⟨w11.heap.size, 0, none⟩)), .v (.int .i64 5), .v (.bool true), .v (.bool true), .v (.bool true), .v (.pointer (some ⟨Ny, 0, none⟩)), .v (VC.val cy), .r (.arr (uqJ N s2)), .v (.pointer (some ⟨w11.heap.size, 0, none⟩)), .v (VC.val cu), .v (.bool true), .v (.bool true), .v (.bool true)])
            (by kernel_rfl) (by kernel_rfl) rfl ?_ (knIt_st _) (knIt_none _) ?_ (knIt_one _ rfl) (knIt_rest _ 32 rfl) ?_ ?_
          · intro p hp
            simp only [List.mem_cons, List.not_mem_nil, or_false] at hp
            rcases hp with rfl | rfl | rfl | rfl | rfl <;> rfl
          · intro i o g want ho hg
            rcases i with _ | _ | _ | _ | _ | _ | _ | _ | _ | _ | _ | _ | _ | _ | _ | _ | _ | _ | _ | _ | _ | _ | _ | _ | _ | _ | _ | _ | _ | _ | _ | _ | i
            · obtain rfl := Option.some.inj ho
              cases hg
            · obtain rfl := Option.some.inj ho
              cases hg
            · obtain rfl := Option.some.inj ho
              cases hg
            · obtain rfl := Option.some.inj ho
              cases hg
            · obtain rfl := Option.some.inj ho
              cases hg
            · obtain rfl := Option.some.inj ho
              cases hg
            · obtain rfl := Option.some.inj ho
              cases hg
            · obtain rfl := Option.some.inj ho
              cases hg
            · obtain rfl := Option.some.inj ho
              cases hg
            · obtain rfl := Option.some.inj ho
              cases hg
            · obtain rfl := Option.some.inj ho
              cases hg
            · obtain rfl := Option.some.inj ho
              cases hg
            · obtain rfl := Option.some.inj ho
              cases hg
            · obtain rfl := Option.some.inj ho
              cases hg; exact ⟨rfl, 78, by simp⟩
            · obtain rfl := Option.some.inj ho
              cases hg; exact ⟨rfl, 78, by simp⟩
            · obtain rfl := Option.some.inj ho
              cases hg; exact ⟨rfl, 78, by simp⟩
            · obtain rfl := Option.some.inj ho
              cases hg
            · obtain rfl := Option.some.inj ho
              cases hg
            · obtain rfl := Option.some.inj ho
              cases hg; exact ⟨rfl, 83, by simp⟩
            · obtain rfl := Option.some.inj ho
              cases hg; exact ⟨rfl, 83, by simp⟩
            · obtain rfl := Option.some.inj ho
              cases hg; exact ⟨rfl, 83, by simp⟩
            · obtain rfl := Option.some.inj ho
              cases hg; exact ⟨rfl, 83, by simp⟩
            · obtain rfl := Option.some.inj ho
              cases hg
            · obtain rfl := Option.some.inj ho
              cases hg
            · obtain rfl := Option.some.inj ho
              cases hg; exact ⟨rfl, 89, by simp⟩
            · obtain rfl := Option.some.inj ho
              cases hg; exact ⟨rfl, 89, by simp⟩
            · obtain rfl := Option.some.inj ho
              cases hg; exact ⟨rfl, 89, by simp⟩
            · obtain rfl := Option.some.inj ho
              cases hg; exact ⟨rfl, 89, by simp⟩
            · obtain rfl := Option.some.inj ho
              cases hg; exact ⟨rfl, 89, by simp⟩
            · obtain rfl := Option.some.inj ho
              cases hg; exact ⟨rfl, 89, by simp⟩
            · obtain rfl := Option.some.inj ho
              cases hg
            · obtain rfl := Option.some.inj ho
              cases hg
            · have := (Array.getElem?_eq_some_iff.1 ho).1
              exact absurd this (Nat.not_lt.2 (Nat.le_add_left 32 i))
          · intro i o ho
            rcases i with _ | _ | _ | _ | _ | _ | _ | _ | _ | _ | _ | _ | _ | _ | _ | _ | _ | _ | _ | _ | _ | _ | _ | _ | _ | _ | _ | _ | _ | _ | _ | _ | i
            · obtain rfl := Option.some.inj ho
              exact step_field 30 0 5 rfl rfl (by simp) (fieldRes0 _)
            · obtain rfl := Option.some.inj ho
              exact step_field1 27 3 0 66 rfl rfl (knIt_none _) (by simp) rfl (by kernel_rfl) (fieldVal3 _)
            · obtain rfl := Option.some.inj ho
              exact step_load1 22 1 67 rfl rfl (knIt_none _) (by simp) rfl (by kernel_rfl) L1.out lt5 (loadValues _ _ _)
            · obtain rfl := Option.some.inj ho
              exact step_len 2 68 rfl rfl (knIt_none _) (by simp) rfl (by kernel_rfl)
            · obtain rfl := Option.some.inj ho
              exact step_field 30 0 7 rfl rfl (by simp) (fieldRes0 _)
            · obtain rfl := Option.some.inj ho
              exact step_field1 27 3 4 70 rfl rfl (knIt_none _) (by simp) rfl (by kernel_rfl) (fieldVal3 _)
            · obtain rfl := Option.some.inj ho
              exact step_load1 22 5 71 rfl rfl (knIt_none _) (by simp) rfl (by kernel_rfl) LX.out ltx (loadValues _ _ _)
            · obtain rfl := Option.some.inj ho
              exact step_len 6 72 rfl rfl (knIt_none _) (by simp) rfl (by kernel_rfl)
            · obtain rfl := Option.some.inj ho
              exact step_addN _ _ rfl SUM.out SN.out 3 7 69 73 rfl rfl (knIt_none _) (by simp) rfl (by kernel_rfl) (by simp) rfl (by kernel_rfl)
            · obtain rfl := Option.some.inj ho
              exact step_move0 0 rfl rfl (knIt_none _) (by simp)
            · obtain rfl := Option.some.inj ho
              exact step_len 9 75 rfl rfl (knIt_none _) (by simp) rfl (by kernel_rfl)
            · obtain rfl := Option.some.inj ho
              exact step_eql _ _ (Or.inl rfl) 8 10 74 76 rfl (by simp) rfl (knIt_none _) (by simp) rfl (by kernel_rfl) (by simp) rfl (by kernel_rfl)
            · obtain rfl := Option.some.inj ho
              exact step_move1 11 77 rfl rfl (knIt_none _) (by simp) rfl (by kernel_rfl)
            · obtain rfl := Option.some.inj ho
              exact step_field 30 1 9 rfl rfl (by simp) (fieldRes1 _)
            · obtain rfl := Option.some.inj ho
              exact step_load1 3 13 79 rfl rfl (knIt_none _) (by simp) rfl (by kernel_rfl) U6.out ltu (loadInt _ _ _)
            · obtain rfl := Option.some.inj ho
              exact step_eqlC _ _ (Or.inl rfl) 14 80 rfl (by simp) rfl (knIt_none _) (by simp) rfl (by kernel_rfl)
            · obtain rfl := Option.some.inj ho
              exact step_and 12 15 78 81 rfl rfl (knIt_none _) (by simp) rfl (by kernel_rfl) (by simp) rfl (by kernel_rfl)
            · obtain rfl := Option.some.inj ho
              exact step_move1 16 82 rfl rfl (knIt_none _) (by simp) rfl (by kernel_rfl)
            · obtain rfl := Option.some.inj ho
              exact step_field 30 0 9 rfl rfl (by simp) (fieldRes0 _)
            · obtain rfl := Option.some.inj ho
              exact step_field1 27 0 18 84 rfl rfl (knIt_none _) (by simp) rfl (by kernel_rfl) (fieldVal0 _)
            · obtain rfl := Option.some.inj ho
              exact step_load1 24 19 85 rfl rfl (knIt_none _) (by simp) rfl (by kernel_rfl) U0.out ltu (loadKind _ _ _)
            · obtain rfl := Option.some.inj ho
              exact step_eqlC _ _ (Or.inr rfl) 20 86 rfl (by simp) rfl (knIt_none _) (by simp) rfl (by kernel_rfl)
            · obtain rfl := Option.some.inj ho
              exact step_and 17 21 83 87 rfl rfl (knIt_none _) (by simp) rfl (by kernel_rfl) (by simp) rfl (by kernel_rfl)
            · obtain rfl := Option.some.inj ho
              exact step_move1 22 88 rfl rfl (knIt_none _) (by simp) rfl (by kernel_rfl)
            · obtain rfl := Option.some.inj ho
              exact step_field 30 0 8 rfl rfl (by simp) (fieldRes0 _)
            · obtain rfl := Option.some.inj ho
              exact step_load6 24 90 rfl rfl (knIt_none _) (by simp) rfl (by kernel_rfl) YB.out lty
            · obtain rfl := Option.some.inj ho
              exact step_callR 7 #[.tmp 91] _ #[VC.val cy] [(25, 91, VC.val cy)] (enters_of Tryz.func7 (by kernel_rfl) rfl) rfl (knIt_none _) rfl (fun p hp => by obtain rfl := List.mem_singleton.1 hp; exact ⟨by simp, rfl, by kernel_rfl⟩) (fun b hu _ => by simp only [List.map_toArray, List.map_cons, List.map_nil, hu _ List.mem_cons_self]) (CU.out)
            · obtain rfl := Option.some.inj ho
              exact step_field 30 0 9 rfl rfl (by simp) (fieldRes0 _)
            · obtain rfl := Option.some.inj ho
              exact step_load6 27 93 rfl rfl (knIt_none _) (by simp) rfl (by kernel_rfl) UB.out ltu
            · obtain rfl := Option.some.inj ho
              exact step_callRV 8 26 28 92 94 _ (enters_of Tryz.func8 (by kernel_rfl) rfl) rfl (knIt_none _) rfl (by simp) (by simp) rfl rfl (by kernel_rfl) (by kernel_rfl) GX.out
            · obtain rfl := Option.some.inj ho
              exact step_and 23 29 89 95 rfl rfl (knIt_none _) (by simp) rfl (by kernel_rfl) (by simp) rfl (by kernel_rfl)
            · obtain rfl := Option.some.inj ho
              exact step_assign1 30 96 rfl rfl (knIt_none _) (by simp) rfl (by kernel_rfl)
            · have := (Array.getElem?_eq_some_iff.1 ho).1
              exact absurd this (Nat.not_lt.2 (Nat.le_add_left 32 i))
          · intro u S w5 hp
            have b5 := hp.low (knIt_none _)
            have e31 : u 31 = .bool true := isV_of hp (j := 31) rfl rfl
            have B5 := Lib.hid (WC.out.trans (b5.mono WC.out.size))
            clear hp b5
            simp only [frameOf, frameL, List.zipIdx_cons, List.zipIdx_nil, Act.put, List.setIfInBounds_toArray, List.set_cons_zero, List.set_cons_succ, Nat.zero_add, Nat.reduceAdd]
            refine hM _ _ (Met.intro (hJ _ _ ?_))
            repeat apply Exists.intro
            refine ⟨?rel, rfl⟩
            case rel => exact ⟨e31, B5.out⟩
        case rest =>
          obtain ⟨rfl, hb⟩ := hcut
          have HB := Lib.hid hb
          clear hb
          go_wp2_with fail
          go_ret
          exact ⟨rfl, HB.out⟩
  · have hd : decide ((2147483647 : Int) < n1) = true ∨ (decide ((2147483647 : Int) < n1) = false ∧ decide ((2147483647 : Int) < n2) = true) := by
      rcases Int.lt_or_le 2147483647 n1 with h | h
      · exact .inl (decide_eq_true h)
      · exact .inr ⟨decide_eq_false (by omega), decide_eq_true (by omega)⟩
    rcases hd with d1 | ⟨d1, d2⟩
    · go_wp2_with fail
      go_ret
      exact ⟨rfl, Below.refl _ _⟩
    · go_wp2_with fail
      go_ret
      exact ⟨rfl, Below.refl _ _⟩
end Go.Proofs.YtofpdcjgakmlnaaGreatDoor
