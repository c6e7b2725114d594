/- A part of the proof. A part of the proof. -/
import Derived.Test.YtofpdcjgakmlnaaGreatDoorM22
import Derived.LoopTactic
import Derived.Deep.RegionWith
namespace Go.Proofs.YtofpdcjgakmlnaaGreatDoor
open Go.RowKit

set_option maxRecDepth 100000 in
set_option maxHeartbeats 1000000 in
/-- Two lists, held against one another by what Compare says of their elements. -/
theorem Cmp2_any (g : J → J → Int) {S : Nat → Prop} {l m : List J} {a b : Option Addr} {ca cb : Nat} {w : World} (hl : l.length ≤ 1000000) (hS : ∀ b, S b → b < w.heap.size)
    (ha : ∀ i (_ : i < l.length), ∃ bb o x, a = some ⟨bb, o, none⟩ ∧ S bb ∧ w.cell? ⟨bb, o + i, none⟩ = some x ∧ JR w S l[i] x)
    (hb : ∀ i (_ : i < m.length), ∃ bb o x, b = some ⟨bb, o, none⟩ ∧ S bb ∧ w.cell? ⟨bb, o + i, none⟩ = some x ∧ JR w S m[i] x)
    (hc : ∀ i (_ : i < l.length) (_ : i < m.length) (x y : Value) (w' : World), Below w.heap.size w w' → JR w' S l[i] x → JR w' S m[i] y → Calls Tryz.prog 36 #[x, y] w' (CmpPost (g l[i] m[i]) w')) :
    Calls Tryz.prog 55 #[.slice a l.length ca, .slice b m.length cb] w (CmpPost (cmpL g l m) w) := by
  have HA := Lib.hid ha; have HB := Lib.hid hb; have HC := Lib.hid hc; have HS := Lib.hid hS
  have CI := Lib.hid (cmpInt_any l.length m.length)
  clear ha hb hc hS
  go_enter Tryz.func55, Tryz.ntmps55
  go_wp2_with fail
  go_loopw [12] (fun i wr => ∃ k : Nat, i = .int .i64 k ∧ k ≤ l.length ∧ k ≤ m.length ∧ Below w.heap.size w wr ∧ cmpL g (l.drop k) (m.drop k) = cmpL g l m) (fun i _ => l.length - (intOf i).toNat)
  case atStart => exact ⟨0, rfl, Nat.zero_le _, Nat.zero_le _, Below.refl _ _, rfl⟩
  case round =>
    obtain ⟨k, rfl, hkl, hkm, hbw, hcm⟩ := hrel
    by_cases hlt : k < l.length ∧ k < m.length
    · obtain ⟨h1, h2⟩ := hlt
      obtain ⟨b1, o1, x, rfl, hb1, hc1, hx⟩ := HA.out k h1
      obtain ⟨b2, o2, y, rfl, hb2, hc2, hy⟩ := HB.out k h2
      have d1 := (hbw.cell (p := ⟨b1, o1 + k, none⟩) (HS.out b1 hb1)).trans hc1
      have d2 := (hbw.cell (p := ⟨b2, o2 + k, none⟩) (HS.out b2 hb2)).trans hc2
      have same : Same S w wr := fun b hb => hbw.block b (HS.out b hb)
      have C := Lib.hid fun w' (hb' : Below w.heap.size w w') => HC.out k h1 h2 x y w' hb' (hx.go (fun b hb => hb'.block b (HS.out b hb)) (fun _ h => h)) (hy.go (fun b hb => hb'.block b (HS.out b hb)) (fun _ h => h))
      have e1 := List.drop_eq_getElem_cons h1; have e2 := List.drop_eq_getElem_cons h2
      rw [e1, e2] at hcm
      simp only [cmpL] at hcm
      have HCM := Lib.hid hcm; have HBW := Lib.hid hbw
      clear hc1 hc2 hx hy same e1 e2 hcm hbw hb1 hb2
      generalize g l[k] m[k] = c at *
      by_cases hz : c = 0
      · subst hz
        go_wp2_with fail
        go_region_with (first
          | (go_at_call 36; refine (C.out _ HBW.out.drew).mono ?_
             rintro e w2 ⟨rfl, hbz⟩
             have W2 := Lib.hid (HBW.out.drew.trans (hbz.mono HBW.out.size))
             clear hbz))
        all_goals
          go_wp2_with fail
          go_roundw
          case rel => exact ⟨k + 1, by go_num, by omega, by omega, W2.out, by have := HCM.out; simpa using this⟩
          case measure => simp [intOf]; omega
      · go_wp2_with fail
        go_region_with (first
          | (go_at_call 36; refine (C.out _ HBW.out.drew).mono ?_
             rintro e w2 ⟨rfl, hbz⟩
             have W2 := Lib.hid (HBW.out.drew.trans (hbz.mono HBW.out.size))
             clear hbz))
        all_goals
          go_wp2_with fail
          go_ret
          refine ⟨?_, W2.out⟩
          have e := HCM.out
          rw [if_neg hz] at e
          rw [← e]
          rfl
    · have e : sgn l.length m.length = cmpL g l m := by
        rw [← hcm]
        by_cases h1 : k < l.length
        · have h2 : m.length ≤ k := by omega
          rw [List.drop_eq_nil_of_le h2, List.drop_eq_getElem_cons h1]
          unfold sgn
          rw [if_neg (by omega), if_neg (by omega)]
          rfl
        · rw [List.drop_eq_nil_of_le (by omega)]
          by_cases h2 : k < m.length
          · rw [List.drop_eq_getElem_cons h2]
            unfold sgn
            rw [if_pos (by omega)]
            rfl
          · rw [List.drop_eq_nil_of_le (by omega)]
            unfold sgn
            rw [if_neg (by omega), if_pos (by omega)]
            rfl
      have HE := Lib.hid e; have HBW := Lib.hid hbw
      clear e hcm hbw
      go_wp2_with fail
      refine (CI.out _).mono ?_
      rintro e w2 ⟨rfl, hb2⟩
      have W2 := Lib.hid (HBW.out.trans (hb2.mono HBW.out.size))
      clear hb2
      go_wp2_with fail
      go_ret
      refine ⟨?_, W2.out⟩
      rw [← HE.out]
      rfl

@[go_sem] theorem is_string_string (v : Value) (w : World) : (Instr.typeAssert (.iface 9 v) 20 9 false).run Tryz.prog w = .ok v w := by kernel_rfl
@[go_sem] theorem is_anys_anys (v : Value) (w : World) : (Instr.typeAssert (.iface 48 v) 20 48 false).run Tryz.prog w = .ok v w := by kernel_rfl

theorem Compare_str (s t : ByteArray) (w : World) : Calls Tryz.prog 36 #[.iface 9 (.string s), .iface 9 (.string t)] w (CmpPost (cmpB s t) w) :=
  Compare_hands fun _ => binopI_ss _ _ _ _ _ _ s t w

theorem cmpL_map {α β : Type} (f : α → α → Int) (g : β → β → Int) (h : α → β) (e : ∀ x y, g (h x) (h y) = f x y) : ∀ l m : List α, cmpL g (l.map h) (m.map h) = cmpL f l m
  | [], [] => rfl
  | [], _ :: _ => rfl
  | _ :: _, [] => rfl
  | x :: xs, y :: ys => by simp only [List.map_cons, cmpL, e]; rw [cmpL_map f g h e xs ys]

/-- Two rows of texts. -/
theorem Compare_texts {ks qs : List ByteArray} {g1 g2 : Nat} {w : World} (h1 : Arr w g1 20 (ks.map fun s => .iface 9 (.string s))) (h2 : Arr w g2 20 (qs.map fun s => .iface 9 (.string s))) (l1 : ks.length ≤ 1000000) :
    Calls Tryz.prog 36 #[.iface 48 (.slice (some ⟨g1, 0, none⟩) ks.length ks.length), .iface 48 (.slice (some ⟨g2, 0, none⟩) qs.length qs.length)] w (CmpPost (cmpL cmpB ks qs) w) := by
  have e := cmpL_map cmpB (cmpN 1) J.str (fun _ _ => rfl) ks qs
  rw [← e]
  have el : ∀ (g : Nat) (ks : List ByteArray), Arr w g 20 (ks.map fun s => .iface 9 (.string s)) → (g = g1 ∨ g = g2) → ∀ i (_ : i < (ks.map J.str).length), ∃ bb o x, some (⟨g, 0, none⟩ : Addr) = some ⟨bb, o, none⟩ ∧ (bb = g1 ∨ bb = g2) ∧ w.cell? ⟨bb, o + i, none⟩ = some x ∧ JR w (fun b => b = g1 ∨ b = g2) (ks.map J.str)[i] x := fun g ks h hg i hi => by
    have hi' : i < ks.length := by simpa using hi
    have hc := h.cell (i := i) (by simpa using hi')
    rw [List.getElem_map] at hc
    exact ⟨g, 0, _, rfl, hg, by rw [Nat.zero_add]; exact hc, by rw [List.getElem_map]; exact .leaf rfl rfl (fun m e => by cases e)⟩
  have h := Cmp2_any (cmpN 1) (S := fun b => b = g1 ∨ b = g2) (l := ks.map J.str) (m := qs.map J.str) (a := some ⟨g1, 0, none⟩) (b := some ⟨g2, 0, none⟩) (ca := ks.length) (cb := qs.length) (w := w) (by simpa using l1) (fun b hb => by
    rcases hb with rfl | rfl
    · exact h1.lt
    · exact h2.lt) (el g1 ks h1 (.inl rfl)) (el g2 qs h2 (.inr rfl)) (fun i hi1 hi2 x y w' hb hx hy => by
    simp only [List.getElem_map] at hx hy ⊢
    obtain rfl := hx.head
    obtain rfl := hy.head
    exact Compare_str _ _ w')
  rw [List.length_map, List.length_map] at h
  exact Compare_hands fun _ => binopI_aa _ _ _ _ _ _ _ _ _ w h

set_option maxRecDepth 100000 in
set_option maxHeartbeats 1000000 in
/-- Two objects. -/
theorem Cmp3_any (g : J → J → Int) {S : Nat → Prop} {p q : List (ByteArray × J)} {b1 b2 : Nat} {mp mq : List (ByteArray × Value)} {w : World} (hjp : JOK (.obj p)) (hjq : JOK (.obj q)) (hS : ∀ b, S b → b < w.heap.size)
    (hM1 : MapAt w b1 mp) (hM2 : MapAt w b2 mq) (hS1 : S b1) (hS2 : S b2) (hp1 : (mp.map (·.1)).Perm (p.map (·.1))) (hp2 : (mq.map (·.1)).Perm (q.map (·.1)))
    (he1 : ∀ i (_ : i < p.length), ∃ x, (p[i].1, x) ∈ mp ∧ JR w S p[i].2 x) (he2 : ∀ i (_ : i < q.length), ∃ x, (q[i].1, x) ∈ mq ∧ JR w S q[i].2 x)
    (hc : ∀ i (_ : i < p.length) (_ : i < q.length) (x y : Value) (w' : World), Below w.heap.size w w' → JR w' S p[i].2 x → JR w' S q[i].2 y → Calls Tryz.prog 36 #[x, y] w' (CmpPost (g p[i].2 q[i].2) w')) :
    Calls Tryz.prog 56 #[.map (some b1), .map (some b2)] w (CmpPost (if cmpL cmpB (p.map (·.1)) (q.map (·.1)) = 0 then cmpL g (p.map (·.2)) (q.map (·.2)) else cmpL cmpB (p.map (·.1)) (q.map (·.1))) w) := by
  have rp : p.length ≤ 400 ∧ ∀ i (_ : i + 1 < p.length), Op.bytesLess p[i].1.toList p[i + 1].1.toList = true := ⟨by rw [JOK] at hjp; exact hjp.2.2.2.1, hjp.obj_mem.1.adj⟩
  have rq : q.length ≤ 400 ∧ ∀ i (_ : i + 1 < q.length), Op.bytesLess q[i].1.toList q[i + 1].1.toList = true := ⟨by rw [JOK] at hjq; exact hjq.2.2.2.1, hjq.obj_mem.1.adj⟩
  have FK := fun (m : List (ByteArray × J)) => fillRow (fun i => .iface 9 (.string (m.getD i (ByteArray.empty, .null)).1)) m.length m.length
  have K1 := funcKeys_map hM1 hp1 rp.1 rp.2 (fun i => .iface 9 (.string (p.getD i (ByteArray.empty, .null)).1)) (fun i h => by simp [h])
  have fr : ∀ m : List (ByteArray × J), fillRow (fun i => Value.iface 9 (.string (m.getD i (ByteArray.empty, .null)).1)) m.length m.length = (m.map (·.1)).map fun s => .iface 9 (.string s) := fun m => by
    apply List.ext_getElem
    · rw [fillRow_len]; simp
    · intro i h1 h2
      have hi : i < m.length := by simpa using h2
      rw [fillRow_get _ hi]
      simp [hi]
  have K2 := Lib.hid fun w' (hb : Below w.heap.size w w') => funcKeys_map (hM2.same (hb.block b2 (hS b2 hS2))) hp2 rq.1 rq.2 (fun i => .iface 9 (.string (q.getD i (ByteArray.empty, .null)).1)) (fun i h => by simp [h])
  rw [fr] at K1 K2
  obtain ⟨c, hcc⟩ : ∃ c, c = cmpL cmpB (p.map (·.1)) (q.map (·.1)) := ⟨_, rfl⟩
  rw [← hcc]
  obtain ⟨r, hr⟩ : ∃ r, r = (if c = 0 then cmpL g (p.map (·.2)) (q.map (·.2)) else c) := ⟨_, rfl⟩
  rw [← hr]
  have HCC := Lib.hid hcc; have HR := Lib.hid hr
  clear hcc hr
  have HK1 := Lib.hid K1
  have HM1 := Lib.hid hM1; have HM2 := Lib.hid hM2; have HE1 := Lib.hid he1; have HE2 := Lib.hid he2; have HC := Lib.hid hc; have HS := Lib.hid hS
  have lp := rp.1; have lq := rq.1
  have HS1 := Lib.hid (hS b1 hS1); have HS2 := Lib.hid (hS b2 hS2)
  clear hM1 hM2 hp1 hp2 he1 he2 hc hS K1 rp rq hjp hjq FK fr hS1 hS2
  go_enter Tryz.func56, Tryz.ntmps56
  go_wp2_with fail
  refine HK1.out.mono ?_
  rintro e w1 ⟨rfl, hA1, hb1⟩
  have HB1 := Lib.hid hb1; have A1 := Lib.hid hA1
  clear hA1 hb1
  go_wp2_with fail
  refine (K2.out _ HB1.out).mono ?_
  rintro e w2 ⟨rfl, hA2, hb2⟩
  have W2 := Lib.hid (HB1.out.trans (hb2.mono HB1.out.size)); have A2 := Lib.hid hA2
  have A1' := Lib.hid (A1.out.below hb2 A1.out.lt)
  have CT := Lib.hid (Compare_texts A1'.out A2.out (by simp; omega))
  clear hb2 hA2
  simp only [List.length_map] at CT
  rw [← HCC.out] at CT
  by_cases hz : c = 0
  · have hkeys : p.map (·.1) = q.map (·.1) := cmpL_zero (fun a _ b _ e => cmpB_zero.1 e) (by rw [← HCC.out, hz])
    subst hz
    have HR2 := Lib.hid (show r = cmpL g (p.map (·.2)) (q.map (·.2)) by have h := HR.out; rw [if_pos rfl] at h; exact h)
    have HKE := Lib.hid hkeys
    have hpq : p.length = q.length := by have := congrArg List.length hkeys; simpa using this
    have HPQ := Lib.hid hpq
    clear hkeys hpq
    go_wp2_with fail
    refine CT.out.mono ?_
    rintro e w3 ⟨rfl, hb3⟩
    have W3 := Lib.hid (W2.out.trans (hb3.mono W2.out.size))
    have A3 := Lib.hid (A1'.out.below hb3 A1'.out.lt)
    clear hb3
    go_wp2_with fail
    go_loopw [26] (fun i wr => ∃ k : Nat, i = .int .i64 k ∧ k ≤ p.length ∧ Below w.heap.size w wr ∧ Arr wr w.heap.size 20 ((p.map (·.1)).map fun s => .iface 9 (.string s)) ∧ cmpL g ((p.map (·.2)).drop k) ((q.map (·.2)).drop k) = cmpL g (p.map (·.2)) (q.map (·.2))) (fun i _ => p.length - (intOf i).toNat)
    case atStart => exact ⟨0, rfl, Nat.zero_le _, W3.out, A3.out, rfl⟩
    case round =>
      obtain ⟨k, rfl, hkp, hbw, hA, hcm⟩ := hrel
      by_cases hlt : k < p.length
      · have h2 : k < q.length := by have := HPQ.out; omega
        obtain ⟨x, hx, hxj⟩ := HE1.out k hlt
        obtain ⟨y, hy, hyj⟩ := HE2.out k h2
        have ek : q[k].1 = p[k].1 := by
          have h3 : (p.map (·.1))[k]'(by simpa using hlt) = (q.map (·.1))[k]'(by simpa using h2) := by simp only [HKE.out]
          simpa using h3.symm
        rw [ek] at hy
        have hcell := hA.cell (i := k) (by simpa using hlt)
        rw [List.getElem_map, List.getElem_map] at hcell
        have l1 := (HM1.out.same (w' := wr.drew) (hbw.block b1 HS1.out)).lookup_hit Tryz.underlying51 Tryz.underlying9 hx false
        have l2 := (HM2.out.same (w' := wr.drew) (hbw.block b2 HS2.out)).lookup_hit Tryz.underlying51 Tryz.underlying9 hy false
        simp only [Bool.false_eq_true, if_false] at l1 l2
        have C := Lib.hid fun w' (hb' : Below w.heap.size w w') => HC.out k hlt h2 x y w' hb' (hxj.go (fun b hb => hb'.block b (HS.out b hb)) (fun _ h => h)) (hyj.go (fun b hb => hb'.block b (HS.out b hb)) (fun _ h => h))
        have e1 := List.drop_eq_getElem_cons (l := p.map (·.2)) (i := k) (by simpa using hlt); have e2 := List.drop_eq_getElem_cons (l := q.map (·.2)) (i := k) (by simpa using h2)
        rw [e1, e2] at hcm
        simp only [cmpL, List.getElem_map] at hcm
        have HCM := Lib.hid hcm; have HBW := Lib.hid hbw; have HA := Lib.hid hA
        have ltA := hA.lt
        clear hx hy hxj hyj e1 e2 hcm hbw hA ek
        generalize p[k].1 = key at *
        generalize g p[k].2 q[k].2 = c at *
        by_cases hz : c = 0
        · subst hz
          go_wp2_with fail
          go_region_with (first
            | (go_at_call 36; refine (C.out _ HBW.out.drew).mono ?_
               rintro e w4 ⟨rfl, hbz⟩
               have W4 := Lib.hid (HBW.out.drew.trans (hbz.mono HBW.out.size))
               have A4 := Lib.hid (show Arr w4 w.heap.size 20 _ from (hbz.block w.heap.size ltA).trans HA.out)
               clear hbz))
          all_goals
            go_wp2_with fail
            go_roundw
            case rel => exact ⟨k + 1, by go_num, by omega, W4.out, A4.out, by have := HCM.out; simpa using this⟩
            case measure => simp [intOf]; omega
        · go_wp2_with fail
          go_region_with (first
            | (go_at_call 36; refine (C.out _ HBW.out.drew).mono ?_
               rintro e w4 ⟨rfl, hbz⟩
               have W4 := Lib.hid (HBW.out.drew.trans (hbz.mono HBW.out.size))
               clear hbz))
          all_goals
            go_wp2_with fail
            go_ret
            refine ⟨?_, W4.out⟩
            have e := HCM.out
            have e2 := HR2.out
            rw [if_neg hz] at e
            rw [← e] at e2
            rw [e2]
            rfl
      · have e : cmpL g (p.map (·.2)) (q.map (·.2)) = 0 := by
          rw [← hcm, List.drop_eq_nil_of_le (by simp; omega), List.drop_eq_nil_of_le (by have := HPQ.out; simp; omega)]
          rfl
        have HE := Lib.hid e; have HBW := Lib.hid hbw
        clear e hcm hbw hA
        go_wp2_with fail
        go_ret
        refine ⟨?_, HBW.out⟩
        have e2 := HR2.out
        rw [HE.out] at e2
        rw [e2]
        rfl
  · go_wp2_with fail
    refine CT.out.mono ?_
    rintro e w3 ⟨rfl, hb3⟩
    have W3 := Lib.hid (W2.out.trans (hb3.mono W2.out.size))
    clear hb3
    go_wp2_with fail
    go_ret
    refine ⟨?_, W3.out⟩
    have e := HR.out
    rw [if_neg hz] at e
    rw [e]
    rfl

end Go.Proofs.YtofpdcjgakmlnaaGreatDoor

namespace Go.Proofs.YtofpdcjgakmlnaaGreatDoor
open Go.RowKit

theorem fall_any {k r : Kd} (h : k.falls r = true) (w : World) : Calls Tryz.prog 36 #[k.val, r.val] w (CmpPost (sgn k.rank r.rank) w) := Compare_hands fun _ => binopI_x k r h _ _ _ _ _ _ w

theorem Elem.rank {j : J} {k : Kd} (h : Elem j k) : k.rank = j.kind := by
  cases j with
  | null => cases h; rfl
  | bool b => cases h; cases b <;> rfl
  | num x =>
    obtain ⟨h, _⟩ := h
    cases k with
    | int n => rfl
    | float X => rfl
    | _ => exact h.elim
  | str s => cases h; rfl
  | arr l => obtain ⟨a, c, rfl⟩ := h; rfl
  | obj m => obtain ⟨b, rfl⟩ := h; rfl

theorem Kd.falls_false {k r : Kd} (h : k.falls r = false) : k.rank = r.rank ∧ 3 ≤ k.rank := by
  cases k <;> cases r <;> (try (refine ⟨rfl, ?_⟩; simp [Kd.rank]; done)) <;> simp [Kd.falls] at h
theorem falls_of {j1 j2 : J} {k1 k2 : Kd} (h1 : Elem j1 k1) (h2 : Elem j2 k2) (h : j1.kind ≠ j2.kind ∨ j1.kind ≤ 2) : k1.falls k2 = true := by
  cases e : k1.falls k2 with
  | true => rfl
  | false =>
    obtain ⟨g1, g2⟩ := Kd.falls_false e
    rw [h1.rank, h2.rank] at g1
    rw [h1.rank] at g2
    omega

/-- gojq.Compare of two right values. -/
theorem Compare_any : ∀ (n : Nat) (j1 j2 : J) (v1 v2 : Value) (S : Nat → Prop) (w : World), SizeOf.sizeOf j1 ≤ n → JOK j1 → JOK j2 → JR w S j1 v1 → JR w S j2 v2 → (∀ b, S b → b < w.heap.size) →
    Calls Tryz.prog 36 #[v1, v2] w (CmpPost (cmpN n j1 j2) w)
  | 0, j1, _, _, _, _, _, h, _, _, _, _, _ => by cases j1 <;> simp at h
  | n + 1, j1, j2, v1, v2, S, w, hs, h1, h2, r1, r2, hS => by
    obtain ⟨k1, e0, e1⟩ := elem_kd h1 r1
    obtain ⟨k2, e0', e2⟩ := elem_kd h2 r2
    have fall : (j1.kind ≠ j2.kind ∨ j1.kind ≤ 2) → cmpN (n + 1) j1 j2 = sgn j1.kind j2.kind → Calls Tryz.prog 36 #[v1, v2] w (CmpPost (cmpN (n + 1) j1 j2) w) := fun h3 h4 => by
      rw [h4, ← e1.rank, ← e2.rank, e0, e0']
      exact fall_any (falls_of e1 e2 h3) w
    by_cases hk : j1.kind = j2.kind
    · cases j1 with
      | null => exact fall (.inr (by simp [J.kind])) (by cases j2 <;> rfl)
      | bool b => exact fall (.inr (by have := kind_bool b; omega)) (by cases j2 <;> rfl)
      | num x =>
        cases j2 with
        | num y => rw [e0, e0']; exact Compare_hands fun _ => binopI_num e1.1 e2.1 h1.half_ok h2.half_ok _ _ _ _ _ w
        | bool z => have := kind_bool z; rw [← hk] at this; simp [J.kind] at this
        | _ => simp [J.kind] at hk
      | str s =>
        cases j2 with
        | str t => obtain rfl := r1.head; obtain rfl := r2.head; exact Compare_str s t w
        | bool z => have := kind_bool z; rw [← hk] at this; simp [J.kind] at this
        | _ => simp [J.kind] at hk
      | arr l =>
        cases j2 with
        | arr m =>
          obtain ⟨a, ca, rfl, ha⟩ := r1.arr
          obtain ⟨b, cb, rfl, hb⟩ := r2.arr
          have l1 : l.length ≤ 400 := by rw [JOK] at h1; exact h1.2.2.1
          refine Compare_hands fun _ => binopI_aa _ _ _ _ _ _ _ _ _ w (Cmp2_any (cmpN n) (by omega) hS ha hb (fun i hi1 hi2 x y w' hbw hx hy => ?_))
          exact Compare_any n l[i] m[i] x y S w' (by have := List.sizeOf_lt_of_mem (List.getElem_mem hi1); simp at hs; omega) (h1.arr_mem _ (List.getElem_mem hi1)) (h2.arr_mem _ (List.getElem_mem hi2)) hx hy (fun b hb => Nat.lt_of_lt_of_le (hS b hb) hbw.size)
        | bool z => have := kind_bool z; rw [← hk] at this; simp [J.kind] at this
        | _ => simp [J.kind] at hk
      | obj p =>
        cases j2 with
        | obj q =>
          obtain ⟨b1, mp, rfl, s1, m1, p1, q1⟩ := r1.obj
          obtain ⟨b2, mq, rfl, s2, m2, p2, q2⟩ := r2.obj
          refine Compare_hands fun _ => binopI_mm _ _ _ _ _ _ _ _ _ w (Cmp3_any (cmpN n) h1 h2 hS m1 m2 s1 s2 p1 p2 q1 q2 (fun i hi1 hi2 x y w' hbw hx hy => ?_))
          exact Compare_any n p[i].2 q[i].2 x y S w' (by
            have g1 := List.sizeOf_lt_of_mem (List.getElem_mem hi1)
            have g2 : SizeOf.sizeOf p[i].2 < SizeOf.sizeOf p[i] := by cases p[i]; simp; omega
            simp at hs; omega) (h1.obj_mem.2 _ (List.getElem_mem hi1)).2 (h2.obj_mem.2 _ (List.getElem_mem hi2)).2 hx hy (fun b hb => Nat.lt_of_lt_of_le (hS b hb) hbw.size)
        | bool z => have := kind_bool z; rw [← hk] at this; simp [J.kind] at this
        | _ => simp [J.kind] at hk
    · exact fall (.inl hk) (cmpN_apart hk)
end Go.Proofs.YtofpdcjgakmlnaaGreatDoor
