/- The law FnDelOne at every argument. -/
import Derived.Test.YtnaijgdffbfapaaGreatDoorM5
import Derived.Test.YtnaijgdffbfapaaGreatDoorM26
import Derived.Test.YtnaijgdffbfapaaGreatDoorM32
import Derived.Test.YtnaijgdffbfapaaGreatDoorM33
import Derived.Test.YtnaijgdffbfapaaGreatDoorM12
import Derived.Test.YtnaijgdffbfapaaGreatDoorZKnI
import Derived.Test.YtnaijgdffbfapaaGreatDoorM28
import Derived.LoopTactic
import Derived.Deep.DeepCutAuto
import Derived.Deep.CutBlock
namespace Go.Proofs.YtnaijgdffbfapaaGreatDoor
open Go.RowKit

/-- An array of one. -/
theorem arr_one_vr {w : World} {S : Nat → Prop} {N : Nat} {j : J} {c : VC} (hN : w.heap[N]? = some (.cells c.arr 26 (0, 0))) (hS : S N) (hV : VR w S j c) : VR w S (.arr [j]) ⟨5, 0, ByteArray.empty, some ⟨N, 0, none⟩, 1, 1, none, 0, 0, none, 0, 0⟩ := by
  rw [VR]
  refine ⟨⟨rfl, rfl, rfl, rfl, rfl, rfl, Nat.le_refl _, Nat.le_refl _, Nat.le_refl _, fun e => (by cases e), fun _ => rfl, fun _ => rfl⟩, fun i hi => ?_, fun i h => absurd h (by simp [J.ents]), fun i h => absurd h (by simp [J.ents])⟩
  have h0 : i = 0 := Nat.lt_one_iff.1 hi
  subst h0
  exact ⟨N, 0, c, rfl, hS, Box.at6 hN, hV⟩

/-- A path without its last step. -/
theorem path_init {w : World} {S : Nat → Prop} {q : List Stp} {st : Stp} {pa : Option Addr} {m pc : Nat} {pv : VC} (h : PathR w S (q ++ [st]) ⟨pa, m + 1, pc, pv⟩) : VR w S (.arr (q.map Stp.j)) ⟨5, 0, ByteArray.empty, pa, m, pc, none, 0, 0, none, 0, 0⟩ := by
  have hh := h.head
  have h2 : VR w S (.arr ((q ++ [st]).map Stp.j)) ⟨5, 0, ByteArray.empty, pa, m + 1, pc, none, 0, 0, none, 0, 0⟩ := h
  rw [VR] at h2
  rw [VR]
  have hl : m = q.length := by have := hh.ll; simpa [SC.pvc, J.list] using this
  refine ⟨⟨rfl, rfl, rfl, by simpa [J.list] using hl, rfl, rfl, Nat.le_trans (Nat.le_succ m) hh.lc, Nat.le_refl _, Nat.le_refl _, hh.ln, fun _ => rfl, fun _ => rfl⟩, fun i hi => ?_, fun i h => absurd h (by simp [J.ents]), fun i h => absurd h (by simp [J.ents])⟩
  have hi' : i < q.length := by simpa [J.list] using hi
  obtain ⟨b, o, x, h3, h4, h5, h6⟩ := h2.2.1 i (by show i < ((q ++ [st]).map Stp.j).length; simp; omega)
  refine ⟨b, o, x, h3, h4, h5, ?_⟩
  have e1 : ((q ++ [st]).map Stp.j)[i]'(by simp; omega) = (q.map Stp.j)[i]'(by simpa using hi') := by rw [List.getElem_map, List.getElem_map, List.getElem_append_left hi']
  have h7 : VR w S (((q ++ [st]).map Stp.j)[i]'(by simp; omega)) x := h6
  rw [e1] at h7
  exact h7
/-- Where a path lies that has steps. -/
theorem path_some {w : World} {S : Nat → Prop} {q : List Stp} {st : Stp} {s : SC} (h : PathR w S (q ++ [st]) s) : ∃ b o x, s.pa = some ⟨b, o, none⟩ ∧ S b ∧ At6 w b (o + q.length * 6) x ∧ VR w S st.j x ∧ s.pn = q.length + 1 := by
  have hh := h.head
  have h2 : VR w S (.arr ((q ++ [st]).map Stp.j)) ⟨5, 0, ByteArray.empty, s.pa, s.pn, s.pc, none, 0, 0, none, 0, 0⟩ := h
  rw [VR] at h2
  obtain ⟨b, o, x, h3, h4, h5, h6⟩ := h2.2.1 q.length (by simp [J.list])
  refine ⟨b, o, x, h3, h4, h5, ?_, by have := hh.ll; simpa [SC.pvc, J.list] using this⟩
  have e : (J.arr ((q ++ [st]).map Stp.j)).list[q.length]'(by simp [J.list]) = st.j := by simp [J.list]
  rw [← e]; exact h6

/-- Two outcomes in boxes of their own. -/
structure GotTwo (w5 : World) (x y : J) (N8 N9 : Nat) (rx ry : VC) (wx : World) : Prop where
  bx : ResBox wx N8 rx 0
  by' : ResBox wx N9 ry 0
  vx : VR wx (· < wx.heap.size) x rx
  vy : VR wx (· < wx.heap.size) y ry
  low : Below w5.heap.size w5 wx

theorem u16_nat {x : Int} (h : (Lit.int .u16 x).wf = true) : ∃ k : Nat, x = k ∧ k < 65536 := by
  simp [Lit.wf] at h
  have h1 : IntKind.u16.min = 0 := rfl
  have h2 : IntKind.u16.max = 65535 := rfl
  exact ⟨x.toNat, by omega, by omega⟩

set_option maxRecDepth 100000 in
set_option maxHeartbeats 8000000 in
theorem FnDelOne_any (ta : T) (x1 : Int) (a : VC) (B : Nat) {w : World} (hB : B ≤ w.heap.size) (h40 : LB ≤ B) (hT : Tabs w) (ha : TR w B ta a) (wf1 : (Lit.int .u16 x1).wf = true) :
    Calls Tryz.prog 3 #[a.val, .int .u16 x1] w (TruePost w) := by
  obtain ⟨kn, rfl, hkn⟩ := u16_nat wf1
  clear wf1
  have hb0 : Below w.heap.size w (w.alloc (.cells a.arr 26)) := (Below.refl _ _).alloc (Nat.le_refl _) _
  have Z1 := Lib.hid (zzFits1_any ta a (B := B) (w := w.alloc (.cells a.arr 26)) (by simp; omega) (ha.go (hb0.mono hB) (Nat.le_refl _)))
  have HB0 := Lib.hid hb0; have BX0 := Lib.hid (box_alloc w a)
  have HA := Lib.hid ha; have HT := Lib.hid hT
  clear hb0 ha hT
  obtain ⟨k0, h0, s0, la, ll, lc, ka, kl, kc, va, vl, vc⟩ := a
  unfold VC.val
  unfold VC.val at Z1
  unfold VC.arr at *
  go_enter Tryz.func3, Tryz.ntmps3
  go_wp2_with fail
  refine Z1.out.mono ?_
  rintro e w1 ⟨b1, rfl, hb1⟩
  have x0 := BX0.out.below hb1 (by simp)
  have p0 := x0.c0; have p1 := x0.c1; have p2 := x0.c2; have p3 := x0.c3; have p4 := x0.c4; have p5 := x0.c5
  have W1 := Lib.hid (HB0.out.trans (hb1.mono HB0.out.size))
  have HB1 := Lib.hid hb1
  clear hb1 x0
  obtain rfl | rfl : b1 = false ∨ b1 = true := by cases b1 <;> simp
  · go_wp2_with fail
    go_ret
    exact ⟨rfl, W1.out⟩
  go_wp2_with fail
  have hp := box_alloc w1 ⟨k0, h0, s0, la, ll, lc, ka, kl, kc, va, vl, vc⟩
  unfold VC.arr at hp
  have bal : ∀ o, Below w.heap.size w (w1.alloc o) := fun o => W1.out.alloc W1.out.size o
  have F := fits_any [ta] (fun _ => ⟨k0, h0, s0, la, ll, lc, ka, kl, kc, va, vl, vc⟩) w1.heap.size 1 B (w := w1.alloc _) (by simp) (by have := W1.out.size; simp; omega) h40 (HT.out.below ((bal _).mono hB) h40) (by simp) (fun i hi => by
    obtain rfl : i = 0 := by simp at hi; omega
    exact ⟨by simpa using hp.at6, HA.out.go ((bal _).mono hB) (Nat.le_refl _)⟩)
  refine F.mono ?_
  rintro e w3 ⟨b3, rfl, hgood, hb3⟩
  clear F hp bal
  have x0 := BX0.out.below (HB1.out.trans (((Below.refl _ _).alloc HB1.out.size _).trans (hb3.mono (by have := HB1.out.size; simp at this ⊢; omega)))) (by simp)
  clear p0 p1 p2 p3 p4 p5
  have W3 := Lib.hid ((W1.out.alloc W1.out.size _).trans (hb3.mono (by have := W1.out.size; simp; omega)))
  have p0 := x0.c0; have p1 := x0.c1; have p2 := x0.c2; have p3 := x0.c3; have p4 := x0.c4; have p5 := x0.c5
  have X0 := Lib.hid x0; have HG := Lib.hid hgood
  have sz3 : w.heap.size + 1 ≤ w3.heap.size := Nat.le_trans (by have := HB1.out.size; simp at this ⊢; omega) hb3.size
  clear hgood hb3 x0
  obtain rfl | rfl : b3 = false ∨ b3 = true := by cases b3 <;> simp
  · go_wp2_with fail
    go_ret
    exact ⟨rfl, W3.out⟩
  have GD : Good ta ∧ ta.n ≤ 400 := HG.out rfl 0 (by simp)
  have JA := JOK.of GD.1 GD.2
  have hjn : ta.j.n ≤ 400 := Nat.le_trans (T.j_n _ ta (Nat.le_refl _) GD.1) GD.2
  have va0 : ∀ w', Below w.heap.size w w' → VR w' (· < B) ta.j _ := fun w' hb => VR.of GD.1 (HA.out.go (hb.mono hB) (Nat.le_refl _))
  have VA := Lib.hid va0
  have JH := Lib.hid JA
  clear va0 JA GD HG HA
  generalize ta.j = j at *
  have WAYS := Lib.hid (Ways_any _ JH.out (VA.out w3 W3.out) hjn (fun b (h : b < B) => by have := W3.out.size; omega))
  unfold VC.val VC.arr at WAYS
  go_wp2_with fail
  refine WAYS.out.mono ?_
  rintro e w4 ⟨la4, n4, lc4, ps, lo4, rfl, hn4, hlo4, hps4, hown4, hread4, hb4⟩
  have W4 := Lib.hid (W3.out.trans (hb4.mono W3.out.size))
  have x4 := X0.out.below hb4 (by omega)
  have X4 := Lib.hid x4
  have sz4 := hb4.size
  have OWN4 := Lib.hid hown4; have READ4 := Lib.hid hread4; have N4 := Lib.hid hn4; have PS4 := Lib.hid hps4
  have hn400 : n4 ≤ 400 := by rw [hn4, waysJ_len _ j (Nat.le_refl _)]; exact hjn
  clear hb4 hown4 hread4 hn4 hps4 p0 p1 p2 p3 p4 p5 WAYS
  have p0 := x4.c0; have p1 := x4.c1; have p2 := x4.c2; have p3 := x4.c3; have p4 := x4.c4; have p5 := x4.c5
  clear x4
  by_cases hlt2 : n4 < 2
  · go_wp2_with fail
    go_ret
    exact ⟨rfl, W4.out⟩
  obtain ⟨ix, hix⟩ : ∃ ix, ix = 1 + kn % (n4 - 1) := ⟨_, rfl⟩
  have hixlt : ix < n4 := by rw [hix]; have := Nat.mod_lt kn (show 0 < n4 - 1 by omega); omega
  have hix0 : 0 < ix := by rw [hix]; omega
  have hixp : ix < ps.length := by have := PS4.out; omega
  have hixw : ix < (waysJ j).length := by have := N4.out; omega
  obtain ⟨g4, cap4, e4, hg4, hg4'⟩ := OWN4.out.form (by omega)
  cases e4
  have hcell : w4.cell? ⟨g4, 1 + kn % (n4 - 1), none⟩ = some (.slice ps[ix].pa ps[ix].pn ps[ix].pc) := by
    rw [← hix]
    have := OWN4.out.cells (g := g4) rfl ix ps[ix].path (by simp [hixp])
    rw [addr_add, Nat.zero_add] at this
    exact this
  have hread := READ4.out ix hixw hixp
  have hways := waysJ_leads _ j (Nat.le_refl _) _ (List.getElem_mem hixw)
  have hne := waysJ_tail j hix0 (List.getElem?_eq_getElem hixw)
  generalize ps[ix] = sp at hcell hread
  generalize (waysJ j)[ix] = p at hread hways hne
  obtain ⟨⟨z, hz⟩, hpl⟩ := hways
  have hp400 : p.length ≤ 400 := by omega
  have RD := Lib.hid hread; have LZ := Lib.hid hz; have NE := Lib.hid hne
  obtain ⟨pa, pn, pc, pv⟩ := sp
  simp only at hcell
  clear hread hz hne hpl OWN4 READ4 N4 PS4
  have hrem : Int.tmod (kn : Int) ((n4 : Int) - 1) = ((kn % (n4 - 1) : Nat) : Int) := by
    rw [show ((n4 : Int) - 1) = ((n4 - 1 : Nat) : Int) by omega]
    exact (Int.ofNat_tmod _ _).symm
  have hadd : (1 : Int) + ((kn % (n4 - 1) : Nat) : Int) = (ix : Int) := by omega
  have hd0 : ¬ ((n4 : Int) - 1 = 0) := by omega
  have hkm : kn % (n4 - 1) < n4 - 1 := Nat.mod_lt kn (by omega)
  go_upto_region 9 with fail
  have RD4 : Hid (PathR w4 (· < w4.heap.size) p ⟨pa, pn, pc, pv⟩) := Lib.hid (RD.out.mono (fun b hb => by rcases hb with h | h; have := W4.out.size; omega; exact h.2))
  have VA4 : Hid (∀ w', Below w4.heap.size w4 w' → VR w' (· < w'.heap.size) j ⟨k0, h0, s0, la, ll, lc, ka, kl, kc, va, vl, vc⟩) := Lib.hid (fun w' hb => by
    have hw := W4.out.trans (hb.mono W4.out.size)
    exact (VA.out w' hw).mono (fun b h => by have := hw.size; omega))
  have RDW : Hid (∀ w', Below w4.heap.size w4 w' → PathR w' (· < w'.heap.size) p ⟨pa, pn, pc, pv⟩) := Lib.hid (fun w' hb => RD4.out.go (fun b h => hb.block b h) (fun b h => Nat.lt_of_lt_of_le h hb.size))
  clear RD VA p0 p1 p2 p3 p4 p5 hcell hrem hadd hd0 hkm
  have szX : w.heap.size < w4.heap.size := X4.out.lt
  go_cut [7] (fun u wx => ∃ N7 r, u = .pointer (some ⟨N7, 0, none⟩) ∧ ResBox wx N7 r 0 ∧ VR wx (New w4.heap.size wx) (delJ p j) r ∧ w4.heap.size ≤ N7 ∧ Below w4.heap.size w4 wx)
  case first =>
    -- <9
    rename_i J0 K0 hJ hM
    have DEL : Hid (∀ w' vy Sy, Below w4.heap.size w4 w' → ArrOne ⟨5, 0, ByteArray.empty, pa, pn, pc, none, 0, 0, none, 0, 0⟩ vy Sy w' → (∀ b, Sy b → w4.heap.size ≤ b ∧ b < w'.heap.size) → Calls Tryz.prog 7 #[VC.val ⟨k0, h0, s0, la, ll, lc, ka, kl, kc, va, vl, vc⟩, vy] w' fun e w'' => ∃ v S', e = .returned v ∧ ResIs (delJ p j) v S' w'' ∧ (∀ b, S' b → w'.heap.size ≤ b ∧ b < w''.heap.size) ∧ Below w'.heap.size w' w'') := Lib.hid (by
      intro w' vy Sy hb hy hSy
      obtain ⟨N, rfl, hN, hcell⟩ := hy
      refine (IDelPaths_del NE.out LZ.out hp400 JH.out (VA4.out w' hb) (arr_one_vr hcell (hSy N hN).2 (RDW.out w' hb)) (fun b h => h)).mono ?_
      rintro e w'' ⟨x, rfl, hx, hbb⟩
      exact ⟨_, New w'.heap.size w'', rfl, ⟨x, rfl, hx⟩, fun b h => h, hbb⟩)
    obtain ⟨L, hL⟩ : ∃ L : List KnE, L = [.v (VC.val ⟨k0, h0, s0, la, ll, lc, ka, kl, kc, va, vl, vc⟩), .v (.slice pa pn pc), .v (VC.val ⟨5, 0, ByteArray.empty, pa, pn, pc, none, 0, 0, none, 0, 0⟩), .one (VC.arr ⟨5, 0, ByteArray.empty, pa, pn, pc, none, 0, 0, none, 0, 0⟩) 26, .gen (some 3) (ArrOne ⟨5, 0, ByteArray.empty, pa, pn, pc, none, 0, 0, none, 0, 0⟩) arrOne_st, .r (delJ p j), .gen none (IsBox zeroRes.cells 33) isBox_st] := ⟨_, rfl⟩
    have FAR : ∀ {b : Nat}, ∀ k ∈ L, k.old ≠ some b := by
      intro b k hk
      rw [hL] at hk
      simp only [List.mem_cons, List.not_mem_nil, or_false] at hk
      rcases hk with rfl | rfl | rfl | rfl | rfl | rfl | rfl <;> (intro e; cases e)
    subst hL
    refine planK 8 152 [(0, 35), (1, 36), (2, 37), (3, 38), (4, 39), (5, 40), (6, 7)] [(2, .pointer (some ⟨w.heap.size, 0, none⟩)), (6, .slice pa pn pc)] [.v (VC.val ⟨k0, h0, s0, la, ll, lc, ka, kl, kc, va, vl, vc⟩), .v (.slice pa pn pc), .v (VC.val ⟨5, 0, ByteArray.empty, pa, pn, pc, none, 0, 0, none, 0, 0⟩), .one (VC.arr ⟨5, 0, ByteArray.empty, pa, pn, pc, none, 0, 0, none, 0, 0⟩) 26, .gen (some 3) (ArrOne ⟨5, 0, ByteArray.empty, pa, pn, pc, none, 0, 0, none, 0, 0⟩) arrOne_st, .r (delJ p j), .gen none (IsBox zeroRes.cells 33) isBox_st] (by kernel_rfl) (by kernel_rfl) rfl ?_ (by kernel_rfl) (by rfl) (by simp) ?_ (by kernel_rfl) ?_ ?_
    · intro p hp
      simp only [List.mem_cons, List.not_mem_nil, or_false] at hp
      rcases hp with rfl | rfl <;> rfl
    · intro k hk b hb
      exact absurd hb (FAR k hk)
    · intro i o ho hT
      rcases i with _ | _ | _ | _ | _ | _ | _ | i
      · obtain rfl := Option.some.inj ho
        exact kn_load6 2 (by rfl) rfl rfl (by simp) X4.out FAR
      · obtain rfl := Option.some.inj ho
        exact kn_move 6 (by rfl) rfl rfl (by simp)
      · obtain rfl := Option.some.inj ho
        exact kn_callG 8 #[.tmp 36] _ #[.slice pa pn pc] [(1, 36, .slice pa pn pc)] (enters_of Tryz.func8 (by kernel_rfl) rfl) (by rfl) (by rfl) rfl rfl rfl (uses1 (by simp) rfl (by kernel_rfl)) (fun b hu => by simp only [List.map_toArray, List.map_cons, List.map_nil, hu _ List.mem_cons_self]) (fun w' _ => (larray_any pa pn pc w').mono (by rintro e w'' ⟨rfl, hb⟩; exact ⟨_, fun _ => False, rfl, rfl, fun b h => h.elim, hb⟩))
      · obtain rfl := Option.some.inj ho
        exact kn_one 23 26 2 37 (by rfl) rfl rfl (by simp) rfl (by kernel_rfl) (build_val _)
      · obtain rfl := Option.some.inj ho
        exact kn_larrOne 3 38 _ (enters_of Tryz.func8 (by kernel_rfl) rfl) rfl rfl (by simp) rfl (by kernel_rfl)
      · obtain rfl := Option.some.inj ho
        exact kn_callX 7 0 4 35 39 _ (enters_of Tryz.func7 (by kernel_rfl) rfl) (by rfl) (by rfl) rfl rfl rfl (by simp) rfl (by kernel_rfl) (by simp) rfl (by kernel_rfl) (by rfl) DEL.out
      · obtain rfl := Option.some.inj ho
        exact kn_alloc 33 zeroRes rfl rfl run_zeroRes
      · simp at hT
        omega
    · intro u S' w' hp hR fuel listed hsz' hl hf
      obtain rfl := listed_eq hsz' hl
      have eR := hR.1 (5, 40) (by simp); have eN := hR.1 (6, 7) (by simp)
      simp only at eR eN
      have hlow := planE_low hp (by rfl)
      obtain ⟨⟨r, hr1, hr2⟩, hrS⟩ := hp.val 5 none none (ResIs (delJ p j)) rfl rfl (live_of (by rfl))
      obtain ⟨⟨N7, hn1, hn2, hn3⟩, hnS⟩ := hp.val 6 none none (IsBox zeroRes.cells 33) rfl rfl (live_of (by rfl))
      rw [hr1] at eR
      rw [hn1] at eN
      have hN7 : w4.heap.size ≤ N7 := (hnS N7 hn2).1.elim (fun h => h) (fun h => by cases h)
      have hdis : ∀ b, S' 5 b → b ≠ N7 := fun b hb e => hp.disj 5 6 none none (ResIs (delJ p j)) none none (IsBox zeroRes.cells 33) rfl rfl rfl rfl (live_of (by rfl)) (live_of (by rfl)) (by decide) b hb (by rw [e]; exact hn2)
      have hstep : ResBox (w'.setRow N7 #[.int .i64 r.k, .int .i64 r.h, .string r.s, .slice r.la r.ll r.lc, .slice r.ka r.kl r.kc, .slice r.va r.vl r.vc, .int .i64 0]) N7 r 0 ∧ VR (w'.setRow N7 #[.int .i64 r.k, .int .i64 r.h, .string r.s, .slice r.la r.ll r.lc, .slice r.ka r.kl r.kc, .slice r.va r.vl r.vc, .int .i64 0]) (New w4.heap.size (w'.setRow N7 #[.int .i64 r.k, .int .i64 r.h, .string r.s, .slice r.la r.ll r.lc, .slice r.ka r.kl r.kc, .slice r.va r.vl r.vc, .int .i64 0])) (delJ p j) r ∧ Below w4.heap.size w4 (w'.setRow N7 #[.int .i64 r.k, .int .i64 r.h, .string r.s, .slice r.la r.ll r.lc, .slice r.ka r.kl r.kc, .slice r.va r.vl r.vc, .int .i64 0]) :=
        ⟨setRow_heap w' N7 _ _ 33 (0, 0) hn3, hr2.go (fun b hb => setRow_other _ _ _ _ (hdis b hb)) (fun b hb => ⟨(hrS b hb).1.elim (fun h => h) (fun h => by cases h), by rw [size_setRow]; exact (hrS b hb).2⟩), setRow_below hlow hN7⟩
      have HST := Lib.hid hstep
      have hu : 1 ≤ fuel := Nat.le_trans (Nat.le_of_ble_eq_true rfl) hf
      clear hf hl hsz' hlow hdis hstep hrS hnS hr2
      refine wpAny_last 7 _ rfl (by kernel_rfl) (by kernel_rfl) rfl (fun K hK => wp_store_row 33 (.tmp 7) (.tmp 40) rfl N7 #[.int .i64 r.k, .int .i64 r.h, .string r.s, .slice r.la r.ll r.lc, .slice r.ka r.kl r.kc, .slice r.va r.vl r.vc, .int .i64 0] eN eR 33 _ hn3 size_res rfl (by simp [Value.oneCell']) hK) ?_ fuel hu
      simp only [frameOf, frameL, List.zipIdx_cons, List.zipIdx_nil, Act.put, List.setIfInBounds_toArray, List.set_cons_zero, List.set_cons_succ, Nat.zero_add, Nat.reduceAdd]
      refine hM _ _ (Met.intro (hJ _ _ ?_))
      repeat apply Exists.intro
      refine ⟨?rel, rfl⟩
      case rel => exact ⟨N7, r, hn1, HST.out.1, HST.out.2.1, hN7, HST.out.2.2⟩
    -- 9>
  case rest =>
    obtain ⟨N7, r, rfl, hrb, hrv, hN7, hb5⟩ := hcut
    rename World => w5
    obtain ⟨q, st, rfl⟩ := snoc_of NE.out
    obtain ⟨x, lx, lz, ly⟩ := LZ.out.del
    obtain ⟨pb, po, kx, hpa, hpb, hk6, hkv, hpn⟩ := path_some RD4.out
    simp only at hpa hpn
    obtain ⟨m, hm⟩ : ∃ m, m = q.length := ⟨_, rfl⟩
    rw [← hm] at hpn hk6
    subst hpa hpn
    have hq4 : q.length ≤ 400 := by simp at hp400; omega
    have PC : Hid (m ≤ pc) := Lib.hid (by have := RD4.out.head.lc; simp only [SC.pvc] at this; omega)
    have HSL : Hid (sliced (some ⟨pb, po, none⟩) 0 m pc 6 = .slice (some ⟨pb, po, none⟩) m pc) := Lib.hid (by simp [sliced, Addr.add])
    have LX := Lib.hid lx; have LST := Lib.hid lz; have LY := Lib.hid ly
    have RB := Lib.hid hrb; have RV := Lib.hid hrv; have HB5 := Lib.hid hb5
    have sz5 := hb5.size
    have KX := Lib.hid (hk6.below hb5 hpb); have KV := Lib.hid hkv
    have XB := Lib.hid (X4.out.below hb5 szX)
    generalize hdx : delJ [st] x = y at *
    have DX := Lib.hid hdx
    obtain ⟨j2, hj2⟩ : ∃ j2, j2 = delJ (q ++ [st]) j := ⟨_, rfl⟩
    have JH2 : Hid (JOK j2) := Lib.hid (by rw [hj2]; exact delJ_jok _ LZ.out JH.out)
    rw [← hj2] at RV LY
    clear hrb hrv lx lz ly hk6 hkv hdx hb5 hj2
    go_upto_region 10 with fail
    go_cut [8, 9] (fun u v wx => ∃ N8 N9 rx ry, u = .pointer (some ⟨N8, 0, none⟩) ∧ v = .pointer (some ⟨N9, 0, none⟩) ∧ GotTwo w5 x y N8 N9 rx ry wx)
    case first =>
      -- <10
      rename_i J0 K0 hJ hM
      have PT : Hid (∀ w', Below w5.heap.size w5 w' → VR w' (· < w'.heap.size) (.arr (q.map Stp.j)) ⟨5, 0, ByteArray.empty, (some ⟨pb, po, none⟩), m, pc, none, 0, 0, none, 0, 0⟩) := Lib.hid (fun w' hb => path_init (RDW.out w' (HB5.out.trans (hb.mono sz5))))
      have GX : Hid (∀ w', Below w5.heap.size w5 w' → Calls Tryz.prog 9 #[VC.val ⟨k0, h0, s0, la, ll, lc, ka, kl, kc, va, vl, vc⟩, VC.val ⟨5, 0, ByteArray.empty, (some ⟨pb, po, none⟩), m, pc, none, 0, 0, none, 0, 0⟩] w' fun e w'' => ∃ v S', e = .returned v ∧ ResIs x v S' w'' ∧ (∀ b, S' b → w'.heap.size ≤ b ∧ b < w''.heap.size) ∧ Below w'.heap.size w' w'') := Lib.hid (by
        intro w' hb
        refine (IGetPath_get LX.out hq4 JH.out (VA4.out w' (HB5.out.trans (hb.mono sz5))) (PT.out w' hb) (fun b h => h)).mono ?_
        rintro e w'' ⟨x1, rfl, hx, hbb⟩
        exact ⟨_, New w'.heap.size w'', rfl, ⟨x1, rfl, hx⟩, fun b h => h, hbb⟩)
      have GY : Hid (∀ w', Below w5.heap.size w5 w' → Calls Tryz.prog 9 #[VC.val r, VC.val ⟨5, 0, ByteArray.empty, (some ⟨pb, po, none⟩), m, pc, none, 0, 0, none, 0, 0⟩] w' fun e w'' => ∃ v S', e = .returned v ∧ ResIs y v S' w'' ∧ (∀ b, S' b → w'.heap.size ≤ b ∧ b < w''.heap.size) ∧ Below w'.heap.size w' w'') := Lib.hid (by
        intro w' hb
        refine (IGetPath_get LY.out hq4 JH2.out (RV.out.go (S' := (· < w'.heap.size)) (fun b h => hb.block b h.2) (fun b h => Nat.lt_of_lt_of_le h.2 hb.size)) (PT.out w' hb) (fun b h => h)).mono ?_
        rintro e w'' ⟨x1, rfl, hx, hbb⟩
        exact ⟨_, New w'.heap.size w'', rfl, ⟨x1, rfl, hx⟩, fun b h => h, hbb⟩)
      obtain ⟨L, hL⟩ : ∃ L : List KnE, L = [.v (VC.val ⟨k0, h0, s0, la, ll, lc, ka, kl, kc, va, vl, vc⟩), .v (.slice (some ⟨pb, po, none⟩) (m + 1) pc), .v (.slice (some ⟨pb, po, none⟩) (m + 1) pc), .v (.int .i64 ((m + 1 : Nat) : Int)), .v (.int .i64 (m : Int)), .v (.slice (some ⟨pb, po, none⟩) m pc), .v (VC.val ⟨5, 0, ByteArray.empty, (some ⟨pb, po, none⟩), m, pc, none, 0, 0, none, 0, 0⟩), .r x, .v (.pointer (some ⟨N7, 0, none⟩)), .v (VC.val r), .v (.slice (some ⟨pb, po, none⟩) (m + 1) pc), .v (.slice (some ⟨pb, po, none⟩) (m + 1) pc), .v (.int .i64 ((m + 1 : Nat) : Int)), .v (.int .i64 (m : Int)), .v (.slice (some ⟨pb, po, none⟩) m pc), .v (VC.val ⟨5, 0, ByteArray.empty, (some ⟨pb, po, none⟩), m, pc, none, 0, 0, none, 0, 0⟩), .r y, .gen none (IsBox zeroRes.cells 33) isBox_st, .gen none (IsBox zeroRes.cells 33) isBox_st] := ⟨_, rfl⟩
      have FAR : ∀ {b : Nat}, ∀ k ∈ L, k.old ≠ some b := by
        intro b k hk
        rw [hL] at hk
        simp only [List.mem_cons, List.not_mem_nil, or_false] at hk
        rcases hk with rfl | rfl | rfl | rfl | rfl | rfl | rfl | rfl | rfl | rfl | rfl | rfl | rfl | rfl | rfl | rfl | rfl | rfl | rfl <;> (intro e; cases e)
      subst hL
      refine planK 21 152 [(0, 41), (1, 42), (2, 43), (3, 44), (4, 45), (5, 46), (6, 47), (7, 48), (8, 49), (9, 50), (10, 51), (11, 52), (12, 53), (13, 54), (14, 55), (15, 56), (16, 57), (17, 8), (18, 9)] [(2, .pointer (some ⟨w.heap.size, 0, none⟩)), (6, .slice (some ⟨pb, po, none⟩) (m + 1) pc), (7, .pointer (some ⟨N7, 0, none⟩))] [.v (VC.val ⟨k0, h0, s0, la, ll, lc, ka, kl, kc, va, vl, vc⟩), .v (.slice (some ⟨pb, po, none⟩) (m + 1) pc), .v (.slice (some ⟨pb, po, none⟩) (m + 1) pc), .v (.int .i64 ((m + 1 : Nat) : Int)), .v (.int .i64 (m : Int)), .v (.slice (some ⟨pb, po, none⟩) m pc), .v (VC.val ⟨5, 0, ByteArray.empty, (some ⟨pb, po, none⟩), m, pc, none, 0, 0, none, 0, 0⟩), .r x, .v (.pointer (some ⟨N7, 0, none⟩)), .v (VC.val r), .v (.slice (some ⟨pb, po, none⟩) (m + 1) pc), .v (.slice (some ⟨pb, po, none⟩) (m + 1) pc), .v (.int .i64 ((m + 1 : Nat) : Int)), .v (.int .i64 (m : Int)), .v (.slice (some ⟨pb, po, none⟩) m pc), .v (VC.val ⟨5, 0, ByteArray.empty, (some ⟨pb, po, none⟩), m, pc, none, 0, 0, none, 0, 0⟩), .r y, .gen none (IsBox zeroRes.cells 33) isBox_st, .gen none (IsBox zeroRes.cells 33) isBox_st] (by kernel_rfl) (by kernel_rfl) rfl ?_ (by kernel_rfl) (by rfl) (by simp) ?_ (by kernel_rfl) ?_ ?_
      · intro p hp
        simp only [List.mem_cons, List.not_mem_nil, or_false] at hp
        rcases hp with rfl | rfl | rfl <;> rfl
      · intro k hk b hb
        exact absurd hb (FAR k hk)
      · intro i o ho hT
        rcases i with _ | _ | _ | _ | _ | _ | _ | _ | _ | _ | _ | _ | _ | _ | _ | _ | _ | _ | _ | i
        · obtain rfl := Option.some.inj ho
          exact kn_load6 2 (by rfl) rfl rfl (by simp) XB.out FAR
        · obtain rfl := Option.some.inj ho
          exact kn_move 6 (by rfl) rfl rfl (by simp)
        · obtain rfl := Option.some.inj ho
          exact kn_move 6 (by rfl) rfl rfl (by simp)
        · obtain rfl := Option.some.inj ho
          exact kn_len 2 43 (by rfl) rfl rfl (by simp) rfl (by kernel_rfl)
        · obtain rfl := Option.some.inj ho
          exact kn_sub1 (m := m) rfl (by omega) 3 44 (by rfl) rfl rfl (by simp) rfl (by kernel_rfl)
        · obtain rfl := Option.some.inj ho
          exact kn_head (a := (some ⟨pb, po, none⟩)) (len := m + 1) (cap := pc) (n := m) (size := 6) 23 1 4 42 45 (by rfl) (by rw [HSL.out]; rfl) rfl (by simp) rfl (by kernel_rfl) (by simp) rfl (by kernel_rfl) (head_values _ _ _ _ PC.out)
        · obtain rfl := Option.some.inj ho
          exact kn_callG 8 #[.tmp 46] _ #[.slice (some ⟨pb, po, none⟩) m pc] [(5, 46, .slice (some ⟨pb, po, none⟩) m pc)] (enters_of Tryz.func8 (by kernel_rfl) rfl) (by rfl) (by rfl) rfl rfl rfl (uses1 (by simp) rfl (by kernel_rfl)) (fun b hu => by simp only [List.map_toArray, List.map_cons, List.map_nil, hu _ List.mem_cons_self]) (fun w' _ => (larray_any _ _ _ w').mono (by rintro e w'' ⟨rfl, hb⟩; exact ⟨_, fun _ => False, rfl, rfl, fun b h => h.elim, hb⟩))
        · obtain rfl := Option.some.inj ho
          exact kn_callG 9 #[.tmp 41, .tmp 47] _ #[VC.val ⟨k0, h0, s0, la, ll, lc, ka, kl, kc, va, vl, vc⟩, VC.val ⟨5, 0, ByteArray.empty, (some ⟨pb, po, none⟩), m, pc, none, 0, 0, none, 0, 0⟩] [(0, 41, VC.val ⟨k0, h0, s0, la, ll, lc, ka, kl, kc, va, vl, vc⟩), (6, 47, VC.val ⟨5, 0, ByteArray.empty, (some ⟨pb, po, none⟩), m, pc, none, 0, 0, none, 0, 0⟩)] (enters_of Tryz.func9 (by kernel_rfl) rfl) (by rfl) (by rfl) rfl rfl rfl (uses2 (by simp) rfl (by kernel_rfl) (by simp) rfl (by kernel_rfl)) (fun b hu => by simp only [List.map_toArray, List.map_cons, List.map_nil, hu _ List.mem_cons_self, hu _ (List.mem_cons_of_mem _ List.mem_cons_self)]) GX.out
        · obtain rfl := Option.some.inj ho
          exact kn_field0 33 0 7 (by rfl) rfl rfl (by simp) (fieldRes0 _)
        · obtain rfl := Option.some.inj ho
          exact kn_loadAt 8 49 (by rfl) rfl rfl (by simp) rfl (by kernel_rfl) (ResBox.at6 RB.out) RB.out.lt FAR
        · obtain rfl := Option.some.inj ho
          exact kn_move 6 (by rfl) rfl rfl (by simp)
        · obtain rfl := Option.some.inj ho
          exact kn_move 6 (by rfl) rfl rfl (by simp)
        · obtain rfl := Option.some.inj ho
          exact kn_len 11 52 (by rfl) rfl rfl (by simp) rfl (by kernel_rfl)
        · obtain rfl := Option.some.inj ho
          exact kn_sub1 (m := m) rfl (by omega) 12 53 (by rfl) rfl rfl (by simp) rfl (by kernel_rfl)
        · obtain rfl := Option.some.inj ho
          exact kn_head (a := (some ⟨pb, po, none⟩)) (len := m + 1) (cap := pc) (n := m) (size := 6) 23 10 13 51 54 (by rfl) (by rw [HSL.out]; rfl) rfl (by simp) rfl (by kernel_rfl) (by simp) rfl (by kernel_rfl) (head_values _ _ _ _ PC.out)
        · obtain rfl := Option.some.inj ho
          exact kn_callG 8 #[.tmp 55] _ #[.slice (some ⟨pb, po, none⟩) m pc] [(14, 55, .slice (some ⟨pb, po, none⟩) m pc)] (enters_of Tryz.func8 (by kernel_rfl) rfl) (by rfl) (by rfl) rfl rfl rfl (uses1 (by simp) rfl (by kernel_rfl)) (fun b hu => by simp only [List.map_toArray, List.map_cons, List.map_nil, hu _ List.mem_cons_self]) (fun w' _ => (larray_any _ _ _ w').mono (by rintro e w'' ⟨rfl, hb⟩; exact ⟨_, fun _ => False, rfl, rfl, fun b h => h.elim, hb⟩))
        · obtain rfl := Option.some.inj ho
          exact kn_callG 9 #[.tmp 50, .tmp 56] _ #[VC.val r, VC.val ⟨5, 0, ByteArray.empty, (some ⟨pb, po, none⟩), m, pc, none, 0, 0, none, 0, 0⟩] [(9, 50, VC.val r), (15, 56, VC.val ⟨5, 0, ByteArray.empty, (some ⟨pb, po, none⟩), m, pc, none, 0, 0, none, 0, 0⟩)] (enters_of Tryz.func9 (by kernel_rfl) rfl) (by rfl) (by rfl) rfl rfl rfl (uses2 (by simp) rfl (by kernel_rfl) (by simp) rfl (by kernel_rfl)) (fun b hu => by simp only [List.map_toArray, List.map_cons, List.map_nil, hu _ List.mem_cons_self, hu _ (List.mem_cons_of_mem _ List.mem_cons_self)]) GY.out
        · obtain rfl := Option.some.inj ho
          exact kn_alloc 33 zeroRes rfl rfl run_zeroRes
        · obtain rfl := Option.some.inj ho
          exact kn_alloc 33 zeroRes rfl rfl run_zeroRes
        · simp at hT
          omega
      · intro u S' w' hp hR fuel listed hsz' hl hf
        obtain rfl := listed_eq hsz' hl
        have eX := hR.1 (7, 48) (by simp); have eY := hR.1 (16, 57) (by simp); have eN8 := hR.1 (17, 8) (by simp); have eN9 := hR.1 (18, 9) (by simp)
        simp only at eX eY eN8 eN9
        have hlow := planE_low hp (by rfl)
        obtain ⟨⟨rx, hx1, hx2⟩, hxS⟩ := hp.val 7 none none (ResIs x) rfl rfl (live_of (by rfl))
        obtain ⟨⟨ry, hy1, hy2⟩, hyS⟩ := hp.val 16 none none (ResIs y) rfl rfl (live_of (by rfl))
        obtain ⟨⟨N8, h81, h82, h83⟩, h8S⟩ := hp.val 17 none none (IsBox zeroRes.cells 33) rfl rfl (live_of (by rfl))
        obtain ⟨⟨N9, h91, h92, h93⟩, h9S⟩ := hp.val 18 none none (IsBox zeroRes.cells 33) rfl rfl (live_of (by rfl))
        rw [hx1] at eX
        rw [hy1] at eY
        rw [h81] at eN8
        rw [h91] at eN9
        have hN8 : w5.heap.size ≤ N8 := (h8S N8 h82).1.elim (fun h => h) (fun h => by cases h)
        have hN9 : w5.heap.size ≤ N9 := (h9S N9 h92).1.elim (fun h => h) (fun h => by cases h)
        have hne : N9 ≠ N8 := fun e => hp.disj 17 18 none none (IsBox zeroRes.cells 33) none none (IsBox zeroRes.cells 33) rfl rfl rfl rfl (live_of (by rfl)) (live_of (by rfl)) (by decide) N8 h82 (by rw [← e]; exact h92)
        have hx8 : ∀ b, S' 7 b → b ≠ N8 := fun b hb e => hp.disj 7 17 none none (ResIs x) none none (IsBox zeroRes.cells 33) rfl rfl rfl rfl (live_of (by rfl)) (live_of (by rfl)) (by decide) b hb (by rw [e]; exact h82)
        have hx9 : ∀ b, S' 7 b → b ≠ N9 := fun b hb e => hp.disj 7 18 none none (ResIs x) none none (IsBox zeroRes.cells 33) rfl rfl rfl rfl (live_of (by rfl)) (live_of (by rfl)) (by decide) b hb (by rw [e]; exact h92)
        have hy8 : ∀ b, S' 16 b → b ≠ N8 := fun b hb e => hp.disj 16 17 none none (ResIs y) none none (IsBox zeroRes.cells 33) rfl rfl rfl rfl (live_of (by rfl)) (live_of (by rfl)) (by decide) b hb (by rw [e]; exact h82)
        have hy9 : ∀ b, S' 16 b → b ≠ N9 := fun b hb e => hp.disj 16 18 none none (ResIs y) none none (IsBox zeroRes.cells 33) rfl rfl rfl rfl (live_of (by rfl)) (live_of (by rfl)) (by decide) b hb (by rw [e]; exact h92)
        have ha9 : (w'.setRow N8 #[.int .i64 rx.k, .int .i64 rx.h, .string rx.s, .slice rx.la rx.ll rx.lc, .slice rx.ka rx.kl rx.kc, .slice rx.va rx.vl rx.vc, .int .i64 0]).heap[N9]? = some (.cells zeroRes.cells 33 (0, 0)) := (setRow_other _ _ _ _ hne).trans h93
        have hoth : ∀ b, b ≠ N8 → b ≠ N9 → ((w'.setRow N8 #[.int .i64 rx.k, .int .i64 rx.h, .string rx.s, .slice rx.la rx.ll rx.lc, .slice rx.ka rx.kl rx.kc, .slice rx.va rx.vl rx.vc, .int .i64 0]).setRow N9 #[.int .i64 ry.k, .int .i64 ry.h, .string ry.s, .slice ry.la ry.ll ry.lc, .slice ry.ka ry.kl ry.kc, .slice ry.va ry.vl ry.vc, .int .i64 0]).heap[b]? = w'.heap[b]? := fun b h8 h9 => (setRow_other _ _ _ _ h9).trans (setRow_other _ _ _ _ h8)
        have hszb : ((w'.setRow N8 #[.int .i64 rx.k, .int .i64 rx.h, .string rx.s, .slice rx.la rx.ll rx.lc, .slice rx.ka rx.kl rx.kc, .slice rx.va rx.vl rx.vc, .int .i64 0]).setRow N9 #[.int .i64 ry.k, .int .i64 ry.h, .string ry.s, .slice ry.la ry.ll ry.lc, .slice ry.ka ry.kl ry.kc, .slice ry.va ry.vl ry.vc, .int .i64 0]).heap.size = w'.heap.size := (size_setRow _ _ _).trans (size_setRow _ _ _)
        have GOT : Hid (GotTwo w5 x y N8 N9 rx ry ((w'.setRow N8 #[.int .i64 rx.k, .int .i64 rx.h, .string rx.s, .slice rx.la rx.ll rx.lc, .slice rx.ka rx.kl rx.kc, .slice rx.va rx.vl rx.vc, .int .i64 0]).setRow N9 #[.int .i64 ry.k, .int .i64 ry.h, .string ry.s, .slice ry.la ry.ll ry.lc, .slice ry.ka ry.kl ry.kc, .slice ry.va ry.vl ry.vc, .int .i64 0])) := Lib.hid
          ⟨(setRow_other _ _ _ _ (Ne.symm hne)).trans (setRow_heap w' N8 _ _ 33 (0, 0) h83), setRow_heap _ N9 _ _ 33 (0, 0) ha9,
           hx2.go (fun b hb => hoth b (hx8 b hb) (hx9 b hb)) (fun b hb => by rw [hszb]; exact (hxS b hb).2), hy2.go (fun b hb => hoth b (hy8 b hb) (hy9 b hb)) (fun b hb => by rw [hszb]; exact (hyS b hb).2),
           setRow_below (setRow_below hlow hN8) hN9⟩
        have hu : 2 ≤ fuel := Nat.le_trans (Nat.le_of_ble_eq_true rfl) hf
        clear hf hl hsz' hlow hx8 hx9 hy8 hy9 hxS hyS h8S h9S hx2 hy2 hoth hszb hne
        refine wpAny_stores2 19 20 _ _ rfl rfl (by kernel_rfl) (by kernel_rfl) (by kernel_rfl) rfl rfl rfl rfl 33 8 48 9 57 rfl rfl N8 N9 #[.int .i64 rx.k, .int .i64 rx.h, .string rx.s, .slice rx.la rx.ll rx.lc, .slice rx.ka rx.kl rx.kc, .slice rx.va rx.vl rx.vc, .int .i64 0] #[.int .i64 ry.k, .int .i64 ry.h, .string ry.s, .slice ry.la ry.ll ry.lc, .slice ry.ka ry.kl ry.kc, .slice ry.va ry.vl ry.vc, .int .i64 0] _ _ eN8 eX eN9 eY h83 ha9 size_res size_res rfl rfl (by simp [Value.oneCell']) (by simp [Value.oneCell']) ?_ fuel hu
        simp only [frameOf, frameL, List.zipIdx_cons, List.zipIdx_nil, Act.put, List.setIfInBounds_toArray, List.set_cons_zero, List.set_cons_succ, Nat.zero_add, Nat.reduceAdd]
        refine hM _ _ (Met.intro (hJ _ _ ?_))
        repeat apply Exists.intro
        refine ⟨?rel, rfl⟩
        case rel => exact ⟨N8, N9, rx, ry, h81, h91, GOT.out⟩
      -- 10>
    case rest =>
      obtain ⟨N8, N9, rx, ry, rfl, rfl, hgot⟩ := hcut
      rename World => w6
      have G := Lib.hid hgot
      have sz6 := hgot.low.size
      have B7 := Lib.hid (RB.out.below hgot.low RB.out.lt)
      have B8 := Lib.hid hgot.bx; have B9 := Lib.hid hgot.by'
      have PB5 : pb < w5.heap.size := Nat.lt_of_lt_of_le hpb sz5
      have KX6 := Lib.hid (KX.out.below hgot.low PB5)
      have W6 := Lib.hid (W4.out.trans ((HB5.out.trans (hgot.low.mono sz5)).mono W4.out.size))
      have hkk : ry.k = rx.k := by
        have h1 := hgot.vx.head.k; have h2 := hgot.vy.head.k
        rw [h1, h2, ← DX.out]
        rcases LST.out.last with ⟨l, i, hi, rfl, rfl, _⟩ | ⟨mm, s, rfl, rfl, _⟩
        · rw [delJ]; rfl
        · rw [delJ]; rfl
      have e7 := B7.out.c6; have e8 := B8.out.c6; have e9 := B9.out.c6
      obtain ⟨kk, hk0⟩ : ∃ kk, kk = rx.k := ⟨_, rfl⟩
      have k8 : w6.cell? ⟨N8, 0, none⟩ = some (.int .i64 kk) := by rw [B8.out.c0, hk0]
      have k9 : w6.cell? ⟨N9, 0, none⟩ = some (.int .i64 kk) := by rw [B9.out.c0, hkk, hk0]
      clear hgot hkk hk0
      go_upto_region 13 with fail
      clear e7 e8 e9 k8 k9
      go_cut [10, 11] (fun u v wx => ∃ N10 N11, u = .pointer (some ⟨N10, 0, none⟩) ∧ v = .pointer (some ⟨N11, 0, none⟩) ∧ Box wx N10 rx ∧ Box wx N11 ry ∧ Below w6.heap.size w6 wx)
      case first =>
        -- <13
        rename_i J0 K0 hJ hM
        refine plan_regionG 8 152 [(0, 80), (1, 81), (2, 82), (3, 83), (4, 10), (5, 11)] [(8, (.pointer (some ⟨N8, 0, none⟩))), (9, (.pointer (some ⟨N9, 0, none⟩)))] (knV [.v (.pointer (some ⟨N8, 0, none⟩)), .v (VC.val rx), .v (.pointer (some ⟨N9, 0, none⟩)), .v (VC.val ry), .box, .box, .put 4 1, .put 5 3]) (by kernel_rfl) (by kernel_rfl) rfl ?_ (knV_st _) (knV_none _) ?_ (knV_one _ rfl) (knV_rest _ 8 rfl) ?_ ?_
        · intro p hp
          simp only [List.mem_cons, List.not_mem_nil, or_false] at hp
          rcases hp with rfl | rfl <;> rfl
        · intro i o g want ho hg
          rcases i with _ | _ | _ | _ | _ | _ | _ | _ | i
          · obtain rfl := Option.some.inj ho
            cases hg
          · obtain rfl := Option.some.inj ho
            cases hg
          · obtain rfl := Option.some.inj ho
            cases hg
          · obtain rfl := Option.some.inj ho
            cases hg
          · obtain rfl := Option.some.inj ho
            cases hg
          · obtain rfl := Option.some.inj ho
            cases hg
          · obtain rfl := Option.some.inj ho
            cases hg
          · obtain rfl := Option.some.inj ho
            cases hg
          · have := (Array.getElem?_eq_some_iff.1 ho).1
            exact absurd this (Nat.not_lt.2 (Nat.le_add_left 8 i))
        · intro i o ho
          rcases i with _ | _ | _ | _ | _ | _ | _ | _ | i
          · obtain rfl := Option.some.inj ho
            exact step_field 33 0 8 rfl rfl (by simp) (fieldRes0 _)
          · obtain rfl := Option.some.inj ho
            exact step_load6 0 80 rfl rfl (knV_none _) (by simp) rfl (by kernel_rfl) (ResBox.at6 B8.out) B8.out.lt
          · obtain rfl := Option.some.inj ho
            exact step_field 33 0 9 rfl rfl (by simp) (fieldRes0 _)
          · obtain rfl := Option.some.inj ho
            exact step_load6 2 82 rfl rfl (knV_none _) (by simp) rfl (by kernel_rfl) (ResBox.at6 B9.out) B9.out.lt
          · obtain rfl := Option.some.inj ho
            exact step_boxV rfl rfl
          · obtain rfl := Option.some.inj ho
            exact step_boxV rfl rfl
          · obtain rfl := Option.some.inj ho
            exact step_putV 4 1 10 81 rfl rfl rfl rfl (by simp) (by simp) (by kernel_rfl) (by kernel_rfl) rfl
          · obtain rfl := Option.some.inj ho
            exact step_putV 5 3 11 83 rfl rfl rfl rfl (by simp) (by simp) (by kernel_rfl) (by kernel_rfl) rfl
          · have := (Array.getElem?_eq_some_iff.1 ho).1
            exact absurd this (Nat.not_lt.2 (Nat.le_add_left 8 i))
        · intro u S' w' hp
          obtain ⟨NA, hA1, hA2, hA3⟩ := plan_valV hp (i := 6) (b := 4) (s := 1) rfl rfl rfl
          obtain ⟨NB, hB1, hB2, hB3⟩ := plan_valV hp (i := 7) (b := 5) (s := 3) rfl rfl rfl
          have GOT := Lib.hid (And.intro hA3 (And.intro hB3 (hp.low (knV_none _))))
          clear hp hA3 hB3 hA2 hB2
          simp only [frameOf, frameL, List.zipIdx_cons, List.zipIdx_nil, Act.put, List.setIfInBounds_toArray, List.set_cons_zero, List.set_cons_succ, Nat.zero_add, Nat.reduceAdd]
          refine hM _ _ (Met.intro (hJ _ _ ?_))
          repeat apply Exists.intro
          refine ⟨?rel, rfl⟩
          case rel => exact ⟨NA, NB, hA1, hB1, GOT.out⟩
        -- 13>
      case rest =>
        obtain ⟨N10, N11, rfl, rfl, h10, h11, hb7⟩ := hcut
        rename World => w7
        have B10 := Lib.hid h10; have B11 := Lib.hid h11; have HB7 := Lib.hid hb7
        have sz7 := hb7.size
        have W7 := Lib.hid (W6.out.trans (hb7.mono W6.out.size))
        have VX := Lib.hid (G.out.vx.go (w' := w7) (S' := (· < w7.heap.size)) (fun b hb => hb7.block b hb) (fun b hb => Nat.lt_of_lt_of_le hb sz7))
        have VY := Lib.hid (G.out.vy.go (w' := w7) (S' := (· < w7.heap.size)) (fun b hb => hb7.block b hb) (fun b hb => Nat.lt_of_lt_of_le hb sz7))
        have PB6 : pb < w6.heap.size := Nat.lt_of_lt_of_le PB5 sz6
        have PB := Lib.hid (Nat.lt_of_lt_of_le PB6 sz7)
        have KX7 := Lib.hid (KX6.out.below hb7 PB6)
        have JX := Lib.hid (LX.out.jok JH.out)
        have JY := Lib.hid (show JOK y by rw [← DX.out]; exact delJ_jok [st] LST.out JX.out)
        have lt10 := h10.lt; have lt11 := h11.lt
        have hm4 : m ≤ 400 := by omega
        clear hm h10 h11 hb7 G B7 B8 B9 KX KX6 W6 HB7 HB5 RB RV
        rcases LST.out.last with ⟨l, ix1, hi, rfl, rfl, hz⟩ | ⟨mm, s, rfl, rfl, hmem⟩
        · have eD := DX.out
          rw [delJ] at eD
          subst eD
          have c0 : w7.cell? ⟨N10, 0, none⟩ = some (.int .i64 5) := by rw [B10.out.c0, VX.out.head.k]; rfl
          have c1 : w7.cell? ⟨pb, po + m * 6 + 1, none⟩ = some (.int .i64 (2 * (ix1 : Int))) := by rw [KX7.out.c1, KV.out.head.h]; rfl
          have hl4 := JX.out.arr_le
          have hq : (2 * (ix1 : Int)) / 2 = ix1 := by omega
          have hb40 : (ix1 : Int) ≤ 400 := by omega
          have hmm : ((m : Int) + 1 - 1) = m := by omega
          obtain ⟨i0, hi0, hz0, hz1, hz2⟩ := info_parts info_value
          obtain ⟨xs, hxl, hxr, hxa, hxS⟩ := vr_arr VX.out
          have I0 := Lib.hid hi0; have I1 := Lib.hid hz0; have I2 := Lib.hid hz1; have I3 := Lib.hid hz2
          have hne0 : l ≠ [] := fun e => by rw [e] at hi; exact absurd hi (Nat.not_lt_zero _)
          have rll : rx.ll = l.length := VX.out.head.ll
          have yll : ry.ll = l.length - 1 := by have := VY.out.head.ll; simp only [J.list] at this; rw [this, List.length_eraseIdx_of_lt hi]
          have LX := Lib.hid hxa; have SX := Lib.hid (fun b o' (e : rx.la = some ⟨b, o', none⟩) (_ : cellsOf xs ≠ []) => hxS b o' e hne0)
          have LENx : Hid ((cellsOf xs).length = rx.ll * 6) := Lib.hid (by rw [cellsOf_length, hxl, rll])
          have LEN := Lib.hid (show rx.ll = ry.ll + 1 by omega); have LE := Lib.hid (show rx.ll ≤ 1000000 by omega)
          have LC := Lib.hid VX.out.head.lc; have LN := Lib.hid VX.out.head.ln
          have HN := Lib.hid (show ix1 ≤ rx.ll by omega); have HC := Lib.hid (show ix1 ≤ rx.lc from Nat.le_trans (show ix1 ≤ rx.ll by omega) VX.out.head.lc); have HT1 := Lib.hid (show ix1 + 1 ≤ rx.ll by omega); have LI := Lib.hid (show ix1 ≤ 1000000 by omega)
          have ONE1 := Lib.hid (fun u (h : u ∈ (cellsOf xs).take (ix1 * 6)) => cells_one xs u (List.mem_of_mem_take h)); have ONE2 := Lib.hid (fun u (h : u ∈ (cellsOf xs).drop ((ix1 + 1) * 6)) => cells_one xs u (List.mem_of_mem_drop h))
          have HM1 := Lib.hid (show 0 + ix1 ≤ maxLen by unfold maxLen; omega); have HB1 := Lib.hid (show (0 + ix1) * 104 ≤ 140737488355328 by omega)
          have HM2 := Lib.hid (show 0 + ix1 + (rx.ll - (ix1 + 1)) ≤ maxLen by unfold maxLen; omega); have HB2 := Lib.hid (show (0 + ix1 + (rx.ll - (ix1 + 1))) * 104 ≤ 140737488355328 by omega)
          have SAME : Hid (∀ w' vy Sy, Below w7.heap.size w7 w' → ArrIs w7.heap.size (0 + ix1 + (rx.ll - (ix1 + 1))) ([] ++ (cellsOf xs).take (ix1 * 6) ++ (cellsOf xs).drop ((ix1 + 1) * 6)) vy Sy w' → (∀ b, Sy b → w7.heap.size ≤ b ∧ b < w'.heap.size) → Calls Tryz.prog 11 #[vy, VC.val ry] w' fun e w'' => ∃ v S', e = .returned v ∧ isV (.bool true) v S' w'' ∧ (∀ b, S' b → w'.heap.size ≤ b ∧ b < w''.heap.size) ∧ Below w'.heap.size w' w'') := Lib.hid (by
            intro w' vy Sy hb hy _
            obtain ⟨a9, c9, rfl, hown, _⟩ := hy
            have hcells : [] ++ (cellsOf xs).take (ix1 * 6) ++ (cellsOf xs).drop ((ix1 + 1) * 6) = cellsOf (xs.eraseIdx ix1) := by rw [cellsOf_take, cellsOf_drop, List.nil_append, ← cellsOf_append, List.eraseIdx_eq_take_drop_succ]
            rw [hcells] at hown
            have hxi : ix1 < xs.length := by omega
            have hv := arr_read (S := (· < w7.heap.size)) (l := l.eraseIdx ix1) (ys := xs.eraseIdx ix1) hown (by rw [List.length_eraseIdx_of_lt hi, List.length_eraseIdx_of_lt hxi, hxl]) (fun i h1 h2 => by
              rw [List.getElem_eraseIdx, List.getElem_eraseIdx]
              have h3 : i < l.length - 1 := by rw [List.length_eraseIdx_of_lt hi] at h1; exact h1
              split
              · exact (hxr i (by omega) (by omega)).go (fun b h => hb.block b h) (fun _ h => h)
              · exact (hxr (i + 1) (by omega) (by omega)).go (fun b h => hb.block b h) (fun _ h => h))
            refine (Same_refl (.arr (l.eraseIdx ix1)) _ ry w' (fun b => b < w7.heap.size ∨ New w7.heap.size w' b) JY.out hv (VY.out.go (fun b h => hb.block b h) (fun _ h => Or.inl h)) (fun b h => h.elim (fun h => Nat.lt_of_lt_of_le h hb.size) (fun h => h.2))).mono ?_
            rintro e w'' ⟨rfl, hbb⟩
            exact ⟨_, fun _ => False, rfl, rfl, fun b h => h.elim, hbb⟩)
          clear hi0 hz0 hz1 hz2 hxl hxr hxa hxS rll yll hne0 hz hl4 KX7 KV VX VY JX JY DX LST RD4 RDW VA4 LY JH2 HSL
          go_upto_region 17 with fail
          clear c0 c1 hq hmm
          go_cut [4] (fun u wx => u = .bool true ∧ Below w.heap.size w wx)
          case first =>
            -- <17
            rename_i J0 K0 hJ hM
            obtain ⟨L, hL⟩ : ∃ L : List KnE, L = [.v (.pointer (some ⟨N11, 3, none⟩)), .v (.slice ry.la ry.ll ry.lc), .v (.int .i64 ((ry.ll : Nat) : Int)), .v (.pointer (some ⟨N10, 3, none⟩)), .v (.slice rx.la rx.ll rx.lc), .v (.int .i64 ((rx.ll : Nat) : Int)), .v (.int .i64 ((ry.ll : Nat) : Int)), .v (.bool true), .v (.bool true), .row none w7.heap.size 26 6 0 [], .v (.pointer (some ⟨N10, 3, none⟩)), .v (.slice rx.la rx.ll rx.lc), .v (.int .i64 ((ix1 : Nat) : Int)), .v (sliced rx.la 0 ix1 rx.lc 6), .row (some 9) w7.heap.size 26 6 (0 + ix1) ([] ++ (cellsOf xs).take (ix1 * 6)), .v (.pointer (some ⟨N10, 3, none⟩)), .v (.slice rx.la rx.ll rx.lc), .v (.int .i64 ((ix1 : Nat) : Int)), .v (.int .i64 ((ix1 + 1 : Nat) : Int)), .v (sliced rx.la (ix1 + 1) rx.ll rx.lc 6), .row (some 14) w7.heap.size 26 6 (0 + ix1 + (rx.ll - (ix1 + 1))) ([] ++ (cellsOf xs).take (ix1 * 6) ++ (cellsOf xs).drop ((ix1 + 1) * 6)), .arr 20 w7.heap.size (0 + ix1 + (rx.ll - (ix1 + 1))) ([] ++ (cellsOf xs).take (ix1 * 6) ++ (cellsOf xs).drop ((ix1 + 1) * 6)), .v (VC.val ry), .v (.bool true), .v (.bool true), .v (.bool true)] := ⟨_, rfl⟩
            have FAR : ∀ {b : Nat}, ∀ k ∈ L, k.old ≠ some b := by
              intro b k hk
              rw [hL] at hk
              simp only [List.mem_cons, List.not_mem_nil, or_false] at hk
              rcases hk with rfl | rfl | rfl | rfl | rfl | rfl | rfl | rfl | rfl | rfl | rfl | rfl | rfl | rfl | rfl | rfl | rfl | rfl | rfl | rfl | rfl | rfl | rfl | rfl | rfl | rfl <;> (intro e; cases e)
            subst hL
            refine planKG 26 152 [(0, 127), (1, 128), (2, 129), (3, 130), (4, 131), (5, 132), (6, 133), (7, 134), (8, 135), (9, 136), (10, 137), (11, 138), (12, 139), (13, 140), (14, 141), (15, 142), (16, 143), (17, 144), (18, 145), (19, 146), (20, 147), (21, 148), (22, 149), (23, 150), (24, 151), (25, 4)] [(11, (.pointer (some ⟨N11, 0, none⟩))), (10, (.pointer (some ⟨N10, 0, none⟩))), (12, (.int .i64 ((ix1 : Nat) : Int)))] [.v (.pointer (some ⟨N11, 3, none⟩)), .v (.slice ry.la ry.ll ry.lc), .v (.int .i64 ((ry.ll : Nat) : Int)), .v (.pointer (some ⟨N10, 3, none⟩)), .v (.slice rx.la rx.ll rx.lc), .v (.int .i64 ((rx.ll : Nat) : Int)), .v (.int .i64 ((ry.ll : Nat) : Int)), .v (.bool true), .v (.bool true), .row none w7.heap.size 26 6 0 [], .v (.pointer (some ⟨N10, 3, none⟩)), .v (.slice rx.la rx.ll rx.lc), .v (.int .i64 ((ix1 : Nat) : Int)), .v (sliced rx.la 0 ix1 rx.lc 6), .row (some 9) w7.heap.size 26 6 (0 + ix1) ([] ++ (cellsOf xs).take (ix1 * 6)), .v (.pointer (some ⟨N10, 3, none⟩)), .v (.slice rx.la rx.ll rx.lc), .v (.int .i64 ((ix1 : Nat) : Int)), .v (.int .i64 ((ix1 + 1 : Nat) : Int)), .v (sliced rx.la (ix1 + 1) rx.ll rx.lc 6), .row (some 14) w7.heap.size 26 6 (0 + ix1 + (rx.ll - (ix1 + 1))) ([] ++ (cellsOf xs).take (ix1 * 6) ++ (cellsOf xs).drop ((ix1 + 1) * 6)), .arr 20 w7.heap.size (0 + ix1 + (rx.ll - (ix1 + 1))) ([] ++ (cellsOf xs).take (ix1 * 6) ++ (cellsOf xs).drop ((ix1 + 1) * 6)), .v (VC.val ry), .v (.bool true), .v (.bool true), .v (.bool true)] [(8, true)] (by kernel_rfl) (by kernel_rfl) rfl ?_ (by kernel_rfl) ?_ (by rfl) (by simp) ?_ (by kernel_rfl) ?_ ?_
            · intro p hp
              simp only [List.mem_cons, List.not_mem_nil, or_false] at hp
              rcases hp with rfl | rfl | rfl <;> rfl
            · intro p hp
              simp only [List.mem_cons, List.not_mem_nil, or_false] at hp
              rcases hp with rfl
              · exact ⟨rfl, 135, by simp⟩
            · intro k hk b hb
              exact absurd hb (FAR k hk)
            · intro i o ho hT
              rcases i with _ | _ | _ | _ | _ | _ | _ | _ | _ | _ | _ | _ | _ | _ | _ | _ | _ | _ | _ | _ | _ | _ | _ | _ | _ | _ | i
              · obtain rfl := Option.some.inj ho
                exact kn_field0 26 3 11 (by rfl) rfl rfl (by simp) (field3 _)
              · obtain rfl := Option.some.inj ho
                exact kn_load 23 0 127 (by rfl) rfl rfl (by simp) rfl (by kernel_rfl) B11.out.c3 B11.out.lt FAR (loadValues _ _ _)
              · obtain rfl := Option.some.inj ho
                exact kn_len 1 128 (by rfl) rfl rfl (by simp) rfl (by kernel_rfl)
              · obtain rfl := Option.some.inj ho
                exact kn_field0 26 3 10 (by rfl) rfl rfl (by simp) (field3 _)
              · obtain rfl := Option.some.inj ho
                exact kn_load 23 3 130 (by rfl) rfl rfl (by simp) rfl (by kernel_rfl) B10.out.c3 B10.out.lt FAR (loadValues _ _ _)
              · obtain rfl := Option.some.inj ho
                exact kn_len 4 131 (by rfl) rfl rfl (by simp) rfl (by kernel_rfl)
              · obtain rfl := Option.some.inj ho
                exact kn_sub1 LEN.out LE.out 5 132 (by rfl) rfl rfl (by simp) rfl (by kernel_rfl)
              · obtain rfl := Option.some.inj ho
                exact kn_eqlN 2 6 129 133 (by simp) (by rfl) rfl rfl (by simp) rfl (by kernel_rfl) (by simp) rfl (by kernel_rfl)
              · obtain rfl := Option.some.inj ho
                exact kn_move1 7 134 (by rfl) rfl rfl (by simp) rfl (by kernel_rfl)
              · obtain rfl := Option.some.inj ho
                exact kn_build0 23 rfl rfl (Nat.le_refl _) build_zero
              · obtain rfl := Option.some.inj ho
                exact kn_field0 26 3 10 (by rfl) rfl rfl (by simp) (field3 _)
              · obtain rfl := Option.some.inj ho
                exact kn_load 23 10 137 (by rfl) rfl rfl (by simp) rfl (by kernel_rfl) B10.out.c3 B10.out.lt FAR (loadValues _ _ _)
              · obtain rfl := Option.some.inj ho
                exact kn_move 12 (by rfl) rfl rfl (by simp)
              · obtain rfl := Option.some.inj ho
                exact kn_head (len := rx.ll) 23 11 12 138 139 (by rfl) rfl rfl (by simp) rfl (by kernel_rfl) (by simp) rfl (by kernel_rfl) (head_values _ _ _ _ HC.out)
              · obtain rfl := Option.some.inj ho
                exact kn_app1 (inf := i0) (bytes := 104) 23 9 136 (.tmp 140) rfl rfl (by simp) rfl (by kernel_rfl) (src_lies (cs := cellsOf xs) 13 140 (by rfl) (by simp) rfl (by kernel_rfl) LX.out (fun b o' e hne => ⟨SX.out b o' e hne, FAR⟩) (fun w' h => src_head h LENx.out HN.out LC.out LN.out)) Tryz.underlying23 I0.out I1.out I2.out I3.out rfl (by omega) ONE1.out HM1.out HB1.out (Nat.le_refl _)
              · obtain rfl := Option.some.inj ho
                exact kn_field0 26 3 10 (by rfl) rfl rfl (by simp) (field3 _)
              · obtain rfl := Option.some.inj ho
                exact kn_load 23 15 142 (by rfl) rfl rfl (by simp) rfl (by kernel_rfl) B10.out.c3 B10.out.lt FAR (loadValues _ _ _)
              · obtain rfl := Option.some.inj ho
                exact kn_move 12 (by rfl) rfl rfl (by simp)
              · obtain rfl := Option.some.inj ho
                exact kn_add1 LI.out 17 144 (by rfl) rfl rfl (by simp) rfl (by kernel_rfl)
              · obtain rfl := Option.some.inj ho
                exact kn_tail 23 16 18 143 145 (by rfl) rfl rfl (by simp) rfl (by kernel_rfl) (by simp) rfl (by kernel_rfl) (tail_values _ _ _ _ HT1.out)
              · obtain rfl := Option.some.inj ho
                exact kn_app1 (inf := i0) (bytes := 104) 23 14 141 (.tmp 146) rfl rfl (by simp) rfl (by kernel_rfl) (src_lies (cs := cellsOf xs) 19 146 (by rfl) (by simp) rfl (by kernel_rfl) LX.out (fun b o' e hne => ⟨SX.out b o' e hne, FAR⟩) (fun w' h => src_tail h LENx.out HT1.out LC.out LN.out)) Tryz.underlying23 I0.out I1.out I2.out I3.out rfl (by omega) ONE2.out HM2.out HB2.out (Nat.le_refl _)
              · obtain rfl := Option.some.inj ho
                exact kn_larr 20 147 _ (enters_of Tryz.func8 (by kernel_rfl) rfl) rfl rfl (by simp) rfl (by kernel_rfl)
              · obtain rfl := Option.some.inj ho
                exact kn_load6 11 (by rfl) rfl rfl (by simp) B11.out FAR
              · obtain rfl := Option.some.inj ho
                exact kn_callM 11 #[.tmp 148, .tmp 149] _ (fun vy => #[vy, VC.val ry]) [(22, 149, VC.val ry)] 21 148 (enters_of Tryz.func11 (by kernel_rfl) rfl) (by rfl) (by rfl) rfl rfl rfl (uses1 (by simp) rfl (by kernel_rfl)) (by simp) rfl rfl (by kernel_rfl) (by rfl) (fun b vy hu hy => by simp only [List.map_toArray, List.map_cons, List.map_nil, hy, hu _ List.mem_cons_self]) SAME.out
              · obtain rfl := Option.some.inj ho
                exact kn_and 8 23 135 150 (by rfl) rfl rfl (by simp) rfl (by kernel_rfl) (by simp) rfl (by kernel_rfl)
              · obtain rfl := Option.some.inj ho
                exact kn_assign1 24 151 (by rfl) rfl rfl (by simp) rfl (by kernel_rfl)
              · simp at hT
                omega
            · intro u S' w' hp hR fuel listed hsz' hl hf
              obtain rfl := listed_eq hsz' hl
              have hlow := planE_low hp (by rfl)
              have e25 : u 25 = .bool true := planE_v hp (by rfl) (j := 25) (x := .bool true) rfl rfl
              have BW := Lib.hid (W7.out.trans (hlow.mono W7.out.size))
              clear hf hl hsz' hlow hp hR
              refine wpAny_done (by kernel_rfl) ?_ fuel
              simp only [frameOf, frameL, List.zipIdx_cons, List.zipIdx_nil, Act.put, List.setIfInBounds_toArray, List.set_cons_zero, List.set_cons_succ, Nat.zero_add, Nat.reduceAdd]
              refine hM _ _ (Met.intro (hJ _ _ ?_))
              repeat apply Exists.intro
              refine ⟨?rel, rfl⟩
              case rel => exact ⟨e25, BW.out⟩
            -- 17>
          case rest =>
            obtain ⟨rfl, hb⟩ := hcut
            have HB := Lib.hid hb
            clear hb
            go_wp2_with fail
            go_ret
            exact ⟨rfl, HB.out⟩
        · have eD := DX.out
          rw [delJ] at eD
          subst eD
          have c0 : w7.cell? ⟨N10, 0, none⟩ = some (.int .i64 6) := by rw [B10.out.c0, VX.out.head.k]; rfl
          have KS := Lib.hid (show w7.cell? ⟨pb, po + m * 6 + 2, none⟩ = some (.string s) by rw [KX7.out.c2, KV.out.head.s]; rfl)
          have hr := JX.out.obj_mem.1
          have hw := fun (w' : World) (hb : Below w7.heap.size w7 w') => And.intro (VX.out.go (w' := w') (S' := (· < w7.heap.size)) (fun b h => hb.block b h) (fun _ h => h)) (VY.out.go (w' := w') (S' := (· < w7.heap.size)) (fun b h => hb.block b h) (fun _ h => h))
          have HAS : Hid (∀ w', Below w7.heap.size w7 w' → Calls Tryz.prog 10 #[VC.val ry, .string s] w' fun e w'' => ∃ v S', e = .returned v ∧ isV (.bool false) v S' w'' ∧ (∀ b, S' b → w'.heap.size ≤ b ∧ b < w''.heap.size) ∧ Below w'.heap.size w' w'') := Lib.hid (by
            intro w' hb
            refine (SHas_any _ ry s (hw w' hb).2 JY.out (fun b h => Nat.lt_of_lt_of_le h hb.size)).mono ?_
            rintro e w'' ⟨rfl, hbb⟩
            refine ⟨_, fun _ => False, rfl, ?_, fun b h => h.elim, hbb⟩
            show Value.bool _ = Value.bool false
            rw [among_false (by simp)])
          have GET : Hid (∀ w', Below w7.heap.size w7 w' → Calls Tryz.prog 13 #[VC.val rx, .string s] w' fun e w'' => ∃ v S', e = .returned v ∧ OldIs w7 z v S' w'' ∧ (∀ b, S' b → w'.heap.size ≤ b ∧ b < w''.heap.size) ∧ Below w'.heap.size w' w'') := Lib.hid (by
            intro w' hb
            refine (SGet_any mm rx s z hmem (hw w' hb).1 JX.out hr (fun b h => Nat.lt_of_lt_of_le h hb.size)).mono ?_
            rintro e w'' ⟨d, rfl, hd, hbb⟩
            exact ⟨_, fun _ => False, rfl, ⟨d, rfl, hd.go (fun b h => ((hb.trans (hbb.mono hb.size)).block b h).symm) (fun _ h => h)⟩, fun b h => h.elim, hbb⟩)
          have WITH : Hid (∀ w' vy Sy, Below w7.heap.size w7 w' → OldIs w7 z vy Sy w' → (∀ b, Sy b → w7.heap.size ≤ b ∧ b < w'.heap.size) → Calls Tryz.prog 12 #[VC.val ry, .string s, vy] w' fun e w'' => ∃ v S', e = .returned v ∧ ReadIs w7 (.obj mm) v S' w'' ∧ (∀ b, S' b → w'.heap.size ≤ b ∧ b < w''.heap.size) ∧ Below w'.heap.size w' w'') := Lib.hid (by
            intro w' vy Sy hb hy _
            obtain ⟨d, rfl, hd⟩ := hy
            refine (With_any _ ry d s z JY.out.obj_le JY.out.obj_mem.1 (hw w' hb).2 (hd.go (fun b h => hb.block b h) (fun _ h => h)) (fun b h => Nat.lt_of_lt_of_le h hb.size)).mono ?_
            rintro e w'' ⟨d2, rfl, hd2, hbb⟩
            rw [withJ_back hr hmem] at hd2
            refine ⟨_, New w'.heap.size w'', rfl, ⟨d2, rfl, fun w2 hs2 hb2 => hd2.go (fun b h => ?_) (fun _ h => h)⟩, fun b h => h, hbb⟩
            rcases h with h | h
            · exact (hb2.block b h).trans ((hb.trans (hbb.mono hb.size)).block b h).symm
            · exact hs2 b h)
          have SAME : Hid (∀ w' vy Sy, Below w7.heap.size w7 w' → ReadIs w7 (.obj mm) vy Sy w' → (∀ b, Sy b → w7.heap.size ≤ b ∧ b < w'.heap.size) → Calls Tryz.prog 11 #[vy, VC.val rx] w' fun e w'' => ∃ v S', e = .returned v ∧ isV (.bool true) v S' w'' ∧ (∀ b, S' b → w'.heap.size ≤ b ∧ b < w''.heap.size) ∧ Below w'.heap.size w' w'') := Lib.hid (by
            intro w' vy Sy hb hy hSy
            obtain ⟨d, rfl, hd⟩ := hy
            refine (Same_refl (.obj mm) d rx w' (fun b => b < w7.heap.size ∨ Sy b) JX.out (hd w' (Same.refl _ _) hb) ((hw w' hb).1.mono (fun _ h => Or.inl h)) (fun b h => h.elim (fun h => Nat.lt_of_lt_of_le h hb.size) (fun h => (hSy b h).2))).mono ?_
            rintro e w'' ⟨rfl, hbb⟩
            exact ⟨_, fun _ => False, rfl, rfl, fun b h => h.elim, hbb⟩)
          clear hw hr hmem KX7 KV VX VY JX JY DX LST RD4 RDW VA4 LY JH2 HSL
          go_upto_region 15 with fail
          clear c0
          go_cut [4] (fun u wx => u = .bool true ∧ Below w.heap.size w wx)
          case first =>
            -- <15
            rename_i J0 K0 hJ hM
            obtain ⟨L, hL⟩ : ∃ L : List KnE, L = [.v (VC.val ry), .v (.slice (some ⟨pb, po, none⟩) (m + 1) pc), .v (.slice (some ⟨pb, po, none⟩) (m + 1) pc), .v (.int .i64 ((m + 1 : Nat) : Int)), .v (.int .i64 ((m : Nat) : Int)), .v (.pointer (some ⟨pb, po + m * 6, none⟩)), .v (.pointer (some ⟨pb, po + m * 6 + 2, none⟩)), .v (.string s), .v (.bool false), .v (.bool true), .v (.bool true), .v (VC.val ry), .v (.slice (some ⟨pb, po, none⟩) (m + 1) pc), .v (.slice (some ⟨pb, po, none⟩) (m + 1) pc), .v (.int .i64 ((m + 1 : Nat) : Int)), .v (.int .i64 ((m : Nat) : Int)), .v (.pointer (some ⟨pb, po + m * 6, none⟩)), .v (.pointer (some ⟨pb, po + m * 6 + 2, none⟩)), .v (.string s), .v (VC.val rx), .v (.slice (some ⟨pb, po, none⟩) (m + 1) pc), .v (.slice (some ⟨pb, po, none⟩) (m + 1) pc), .v (.int .i64 ((m + 1 : Nat) : Int)), .v (.int .i64 ((m : Nat) : Int)), .v (.pointer (some ⟨pb, po + m * 6, none⟩)), .v (.pointer (some ⟨pb, po + m * 6 + 2, none⟩)), .v (.string s), .gen none (OldIs w7 z) oldIs_st, .gen none (ReadIs w7 (.obj mm)) readIs_st, .v (VC.val rx), .v (.bool true), .v (.bool true), .v (.bool true)] := ⟨_, rfl⟩
            have FAR : ∀ {b : Nat}, ∀ k ∈ L, k.old ≠ some b := by
              intro b k hk
              rw [hL] at hk
              simp only [List.mem_cons, List.not_mem_nil, or_false] at hk
              rcases hk with rfl | rfl | rfl | rfl | rfl | rfl | rfl | rfl | rfl | rfl | rfl | rfl | rfl | rfl | rfl | rfl | rfl | rfl | rfl | rfl | rfl | rfl | rfl | rfl | rfl | rfl | rfl | rfl | rfl | rfl | rfl | rfl | rfl <;> (intro e; cases e)
            subst hL
            refine planKG 33 152 [(0, 87), (1, 88), (2, 89), (3, 90), (4, 91), (5, 92), (6, 93), (7, 94), (8, 95), (9, 96), (10, 97), (11, 98), (12, 99), (13, 100), (14, 101), (15, 102), (16, 103), (17, 104), (18, 105), (19, 106), (20, 107), (21, 108), (22, 109), (23, 110), (24, 111), (25, 112), (26, 113), (27, 114), (28, 115), (29, 116), (30, 117), (31, 118), (32, 4)] [(11, (.pointer (some ⟨N11, 0, none⟩))), (10, (.pointer (some ⟨N10, 0, none⟩))), (6, (.slice (some ⟨pb, po, none⟩) (m + 1) pc))] [.v (VC.val ry), .v (.slice (some ⟨pb, po, none⟩) (m + 1) pc), .v (.slice (some ⟨pb, po, none⟩) (m + 1) pc), .v (.int .i64 ((m + 1 : Nat) : Int)), .v (.int .i64 ((m : Nat) : Int)), .v (.pointer (some ⟨pb, po + m * 6, none⟩)), .v (.pointer (some ⟨pb, po + m * 6 + 2, none⟩)), .v (.string s), .v (.bool false), .v (.bool true), .v (.bool true), .v (VC.val ry), .v (.slice (some ⟨pb, po, none⟩) (m + 1) pc), .v (.slice (some ⟨pb, po, none⟩) (m + 1) pc), .v (.int .i64 ((m + 1 : Nat) : Int)), .v (.int .i64 ((m : Nat) : Int)), .v (.pointer (some ⟨pb, po + m * 6, none⟩)), .v (.pointer (some ⟨pb, po + m * 6 + 2, none⟩)), .v (.string s), .v (VC.val rx), .v (.slice (some ⟨pb, po, none⟩) (m + 1) pc), .v (.slice (some ⟨pb, po, none⟩) (m + 1) pc), .v (.int .i64 ((m + 1 : Nat) : Int)), .v (.int .i64 ((m : Nat) : Int)), .v (.pointer (some ⟨pb, po + m * 6, none⟩)), .v (.pointer (some ⟨pb, po + m * 6 + 2, none⟩)), .v (.string s), .gen none (OldIs w7 z) oldIs_st, .gen none (ReadIs w7 (.obj mm)) readIs_st, .v (VC.val rx), .v (.bool true), .v (.bool true), .v (.bool true)] [(10, true)] (by kernel_rfl) (by kernel_rfl) rfl ?_ (by kernel_rfl) ?_ (by rfl) (by simp) ?_ (by kernel_rfl) ?_ ?_
            · intro p hp
              simp only [List.mem_cons, List.not_mem_nil, or_false] at hp
              rcases hp with rfl | rfl | rfl <;> rfl
            · intro p hp
              simp only [List.mem_cons, List.not_mem_nil, or_false] at hp
              rcases hp with rfl
              · exact ⟨rfl, 97, by simp⟩
            · intro k hk b hb
              exact absurd hb (FAR k hk)
            · intro i o ho hT
              rcases i with _ | _ | _ | _ | _ | _ | _ | _ | _ | _ | _ | _ | _ | _ | _ | _ | _ | _ | _ | _ | _ | _ | _ | _ | _ | _ | _ | _ | _ | _ | _ | _ | _ | i
              · obtain rfl := Option.some.inj ho
                exact kn_load6 11 (by rfl) rfl rfl (by simp) B11.out FAR
              · obtain rfl := Option.some.inj ho
                exact kn_move 6 (by rfl) rfl rfl (by simp)
              · obtain rfl := Option.some.inj ho
                exact kn_move 6 (by rfl) rfl rfl (by simp)
              · obtain rfl := Option.some.inj ho
                exact kn_len 2 89 (by rfl) rfl rfl (by simp) rfl (by kernel_rfl)
              · obtain rfl := Option.some.inj ho
                exact kn_sub1 (m := m) rfl (by omega) 3 90 (by rfl) rfl rfl (by simp) rfl (by kernel_rfl)
              · obtain rfl := Option.some.inj ho
                exact kn_index 1 4 88 91 (by omega) (by rfl) rfl rfl (by simp) rfl (by kernel_rfl) (by simp) rfl (by kernel_rfl)
              · obtain rfl := Option.some.inj ho
                exact kn_field1 26 2 5 92 (by rfl) rfl rfl (by simp) rfl (by kernel_rfl) (fieldVal2 _ _)
              · obtain rfl := Option.some.inj ho
                exact kn_load 9 6 93 (by rfl) rfl rfl (by simp) rfl (by kernel_rfl) KS.out PB.out FAR (load_string _ _ _)
              · obtain rfl := Option.some.inj ho
                exact kn_callG 10 #[.tmp 87, .tmp 94] _ #[VC.val ry, (.string s)] [(0, 87, VC.val ry), (7, 94, (.string s))] (enters_of Tryz.func10 (by kernel_rfl) rfl) (by rfl) (by rfl) rfl rfl rfl (uses2 (by simp) rfl (by kernel_rfl) (by simp) rfl (by kernel_rfl)) (fun b hu => by simp only [List.map_toArray, List.map_cons, List.map_nil, hu _ List.mem_cons_self, hu _ (List.mem_cons_of_mem _ List.mem_cons_self)]) HAS.out
              · obtain rfl := Option.some.inj ho
                exact kn_not (c := false) _ 8 95 (by rfl) rfl rfl (by simp) rfl (by kernel_rfl)
              · obtain rfl := Option.some.inj ho
                exact kn_move1 9 96 (by rfl) rfl rfl (by simp) rfl (by kernel_rfl)
              · obtain rfl := Option.some.inj ho
                exact kn_load6 11 (by rfl) rfl rfl (by simp) B11.out FAR
              · obtain rfl := Option.some.inj ho
                exact kn_move 6 (by rfl) rfl rfl (by simp)
              · obtain rfl := Option.some.inj ho
                exact kn_move 6 (by rfl) rfl rfl (by simp)
              · obtain rfl := Option.some.inj ho
                exact kn_len 13 100 (by rfl) rfl rfl (by simp) rfl (by kernel_rfl)
              · obtain rfl := Option.some.inj ho
                exact kn_sub1 (m := m) rfl (by omega) 14 101 (by rfl) rfl rfl (by simp) rfl (by kernel_rfl)
              · obtain rfl := Option.some.inj ho
                exact kn_index 12 15 99 102 (by omega) (by rfl) rfl rfl (by simp) rfl (by kernel_rfl) (by simp) rfl (by kernel_rfl)
              · obtain rfl := Option.some.inj ho
                exact kn_field1 26 2 16 103 (by rfl) rfl rfl (by simp) rfl (by kernel_rfl) (fieldVal2 _ _)
              · obtain rfl := Option.some.inj ho
                exact kn_load 9 17 104 (by rfl) rfl rfl (by simp) rfl (by kernel_rfl) KS.out PB.out FAR (load_string _ _ _)
              · obtain rfl := Option.some.inj ho
                exact kn_load6 10 (by rfl) rfl rfl (by simp) B10.out FAR
              · obtain rfl := Option.some.inj ho
                exact kn_move 6 (by rfl) rfl rfl (by simp)
              · obtain rfl := Option.some.inj ho
                exact kn_move 6 (by rfl) rfl rfl (by simp)
              · obtain rfl := Option.some.inj ho
                exact kn_len 21 108 (by rfl) rfl rfl (by simp) rfl (by kernel_rfl)
              · obtain rfl := Option.some.inj ho
                exact kn_sub1 (m := m) rfl (by omega) 22 109 (by rfl) rfl rfl (by simp) rfl (by kernel_rfl)
              · obtain rfl := Option.some.inj ho
                exact kn_index 20 23 107 110 (by omega) (by rfl) rfl rfl (by simp) rfl (by kernel_rfl) (by simp) rfl (by kernel_rfl)
              · obtain rfl := Option.some.inj ho
                exact kn_field1 26 2 24 111 (by rfl) rfl rfl (by simp) rfl (by kernel_rfl) (fieldVal2 _ _)
              · obtain rfl := Option.some.inj ho
                exact kn_load 9 25 112 (by rfl) rfl rfl (by simp) rfl (by kernel_rfl) KS.out PB.out FAR (load_string _ _ _)
              · obtain rfl := Option.some.inj ho
                exact kn_callG 13 #[.tmp 106, .tmp 113] _ #[VC.val rx, (.string s)] [(19, 106, VC.val rx), (26, 113, (.string s))] (enters_of Tryz.func13 (by kernel_rfl) rfl) (by rfl) (by rfl) rfl rfl rfl (uses2 (by simp) rfl (by kernel_rfl) (by simp) rfl (by kernel_rfl)) (fun b hu => by simp only [List.map_toArray, List.map_cons, List.map_nil, hu _ List.mem_cons_self, hu _ (List.mem_cons_of_mem _ List.mem_cons_self)]) GET.out
              · obtain rfl := Option.some.inj ho
                exact kn_callM 12 #[.tmp 98, .tmp 105, .tmp 114] _ (fun vy => #[VC.val ry, (.string s), vy]) [(11, 98, VC.val ry), (18, 105, (.string s))] 27 114 (enters_of Tryz.func12 (by kernel_rfl) rfl) (by rfl) (by rfl) rfl rfl rfl (uses2 (by simp) rfl (by kernel_rfl) (by simp) rfl (by kernel_rfl)) (by simp) rfl rfl (by kernel_rfl) (by rfl) (fun b vy hu hy => by simp only [List.map_toArray, List.map_cons, List.map_nil, hy, hu _ List.mem_cons_self, hu _ (List.mem_cons_of_mem _ List.mem_cons_self)]) WITH.out
              · obtain rfl := Option.some.inj ho
                exact kn_load6 10 (by rfl) rfl rfl (by simp) B10.out FAR
              · obtain rfl := Option.some.inj ho
                exact kn_callM 11 #[.tmp 115, .tmp 116] _ (fun vy => #[vy, VC.val rx]) [(29, 116, VC.val rx)] 28 115 (enters_of Tryz.func11 (by kernel_rfl) rfl) (by rfl) (by rfl) rfl rfl rfl (uses1 (by simp) rfl (by kernel_rfl)) (by simp) rfl rfl (by kernel_rfl) (by rfl) (fun b vy hu hy => by simp only [List.map_toArray, List.map_cons, List.map_nil, hy, hu _ List.mem_cons_self]) SAME.out
              · obtain rfl := Option.some.inj ho
                exact kn_and 10 30 97 117 (by rfl) rfl rfl (by simp) rfl (by kernel_rfl) (by simp) rfl (by kernel_rfl)
              · obtain rfl := Option.some.inj ho
                exact kn_assign1 31 118 (by rfl) rfl rfl (by simp) rfl (by kernel_rfl)
              · simp at hT
                omega
            · intro u S' w' hp hR fuel listed hsz' hl hf
              obtain rfl := listed_eq hsz' hl
              have hlow := planE_low hp (by rfl)
              have e32 : u 32 = .bool true := planE_v hp (by rfl) (j := 32) (x := .bool true) rfl rfl
              have BW := Lib.hid (W7.out.trans (hlow.mono W7.out.size))
              clear hf hl hsz' hlow hp hR
              refine wpAny_done (by kernel_rfl) ?_ fuel
              simp only [frameOf, frameL, List.zipIdx_cons, List.zipIdx_nil, Act.put, List.setIfInBounds_toArray, List.set_cons_zero, List.set_cons_succ, Nat.zero_add, Nat.reduceAdd]
              refine hM _ _ (Met.intro (hJ _ _ ?_))
              repeat apply Exists.intro
              refine ⟨?rel, rfl⟩
              case rel => exact ⟨e32, BW.out⟩
            -- 15>
          case rest =>
            obtain ⟨rfl, hb⟩ := hcut
            have HB := Lib.hid hb
            clear hb
            go_wp2_with fail
            go_ret
            exact ⟨rfl, HB.out⟩
end Go.Proofs.YtnaijgdffbfapaaGreatDoor
