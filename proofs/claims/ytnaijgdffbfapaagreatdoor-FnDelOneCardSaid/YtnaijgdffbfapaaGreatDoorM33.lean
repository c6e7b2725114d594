/- spec.within: the spots of what is in an array or object. spec.spots: a spot and all within it. spec.Ways: the paths to a value and to all within it. A region that draws its order: its last stores, its guards, its known values; Values that read in new and old memory. -/
import Derived.Test.YtnaijgdffbfapaaGreatDoorM32
import Derived.Test.YtnaijgdffbfapaaGreatDoorM28
import Derived.LoopTactic
import Derived.Deep.DeepCutAuto
import Derived.Deep.CutBlock
import Derived.Test.YtnaijgdffbfapaaGreatDoorZSlices
namespace Go.Proofs.YtnaijgdffbfapaaGreatDoor
open Go.RowKit

/-- The spots of what is in a value. -/
def WithinPost (S : Nat → Prop) (p : List Stp) (j : J) (w : World) (e : Ending) (w' : World) : Prop :=
  ∃ a n q xs lo, e = .returned (.slice a n q) ∧ w.heap.size ≤ lo ∧ PRow (fun _ => False) lo ((keysS j).map fun k => p ++ [k]) (.slice a n q) xs w' ∧ (∀ i (_ : i < (valsJ j).length) (h : i < xs.length), VR w' S (valsJ j)[i] xs[i].v) ∧ Below w.heap.size w w'
def WithinAt (S : Nat → Prop) (p : List Stp) (j : J) (W3 : World) (n : Nat) (v : Value) (wr : World) : Prop :=
  ∃ a q xs, v = .slice a xs.length q ∧ xs.length = n ∧ PRow (fun _ => False) W3.heap.size (((keysS j).take n).map fun k => p ++ [k]) v xs wr ∧ (∀ i (_ : i < (valsJ j).length) (h : i < xs.length), VR wr S (valsJ j)[i] xs[i].v) ∧ Below W3.heap.size W3 wr

set_option maxRecDepth 100000 in
theorem within_any {S : Nat → Prop} {p : List Stp} {j : J} (s : SC) {w : World} (hj : JOK j) (hp : PathR w S p s) (hv : VR w S j s.v) (h4 : p.length + j.n ≤ 1000) (hS : ∀ b, S b → b < w.heap.size) :
    Calls Tryz.prog 24 #[s.val] w (WithinPost S p j w) := by
  have hb : Below w.heap.size w (w.alloc (.cells s.arr 45)) := (Below.refl _ _).alloc (Nat.le_refl _) _
  have bx := sbox_alloc w s
  obtain ⟨i0, hi, hz0, hz1, hz2⟩ := info_parts info_spot
  have I0 := Lib.hid hi; have I1 := Lib.hid hz0; have I2 := Lib.hid hz1; have I3 := Lib.hid hz2
  obtain ⟨W1, hW1⟩ : ∃ W1, W1 = w.alloc (.cells s.arr 45) := ⟨_, rfl⟩
  have hs1 : W1.heap.size = w.heap.size + 1 := by rw [hW1]; simp
  rw [← hW1] at hb bx
  have hv1 : VR W1 S j s.v := hv.go (fun b h => hb.block b (hS b h)) (fun _ h => h)
  have EACH := Lib.hid (SEach_any hv1)
  have HB := Lib.hid hb; have BX := Lib.hid bx
  have HS := Lib.hid hS; have HV := Lib.hid hv1; have HP := Lib.hid hp; have HJ := Lib.hid hj
  obtain ⟨ps, hps1, hpn, hpc, hpz, hlies, hpb, hpr⟩ := path_cells hp hS
  have LIES := Lib.hid hlies; have PB := Lib.hid hpb; have PR := Lib.hid hpr; have PC := Lib.hid hpc; have PZ := Lib.hid hpz; have PL := Lib.hid hps1; have PN := Lib.hid hpn
  obtain ⟨c0, c1, c2, c3, c4, c5, c6⟩ := bx.cs
  clear hlies hpb hpr hpc hpz hps1 hpn
  clear hb bx hS hv hp hj hv1 hi hz0 hz1 hz2
  obtain ⟨sv, hsv⟩ : ∃ sv, sv = s := ⟨_, rfl⟩
  obtain ⟨pa, pn, pc, ⟨k0, h0, s0, la, ll, lc, ka, kl, kc, va, vl, vc⟩⟩ := s
  have SV := Lib.hid hsv
  clear hsv
  unfold SC.val SC.arr at *
  unfold VC.val VC.arr at EACH
  simp only at c0 c1 c2 c3 c4 c5 c6 LIES PB PC PZ PL PN
  go_enter Tryz.func24, Tryz.ntmps24
  go_wp2_with fail
  rw [← hW1]
  refine EACH.out.mono ?_
  rintro e w2 ⟨a, n, q, how, rfl, hn, hel, hb2⟩
  have hV2 := Lib.hid (HV.out.go (S' := S) (fun b h => hb2.block b (by have := HS.out b h; omega)) (fun _ h => h))
  have KEYS := Lib.hid (SKeysOf_any HJ.out hV2.out (fun b h => by have := HS.out b h; have := hb2.size; omega))
  have hbx2 := BX.out.below hb2 (by omega)
  obtain ⟨d0, d1, d2, d3, d4, d5, d6⟩ := hbx2.cs
  have HB2 := Lib.hid hb2; have BX2 := Lib.hid hbx2; have EL := Lib.hid hel; have HN := Lib.hid hn
  have hs2 := hb2.size
  clear hb2 hel hn c0 c1 c2 c3 c4 c5 c6 hbx2 EACH hW1
  unfold VC.val VC.arr at KEYS
  simp only at d0 d1 d2 d3 d4 d5 d6
  go_wp2_with fail
  refine KEYS.out.mono ?_
  rintro e w3 ⟨ka9, kq9, rfl, hown3, hb3⟩
  have K3 := Lib.hid hown3; have HB3 := Lib.hid hb3
  have hs3 := hb3.size
  clear hown3 hb3 KEYS d0 d1 d2 d3 d4 d5 d6
  go_wp2_with fail
  have HK : Hid ((keysS j).length = (keysJ j).length ∧ (keysJ j).length = (valsJ j).length) := Lib.hid ⟨keysS_keysJ j, by rw [← keysS_keysJ, keysS_len]⟩
  have hlen4 : (keysJ j).length ≤ 400 := by
    obtain ⟨h1, h2, h3⟩ := kvc_le HJ.out
    rw [← kvc_len]
    rcases h3 with h3 | h3 <;> simp [kvc, h3] <;> omega
  have BXW := Lib.hid (BX2.out.below HB3.out (by have := HB.out.size; omega))
  have hlt0 : w.heap.size < w3.heap.size := BXW.out.lt
  go_loopw [3, 18] (fun u i wr => ∃ m : Nat, i = .int .i64 m ∧ m ≤ (keysJ j).length ∧ WithinAt S p j w3 m u wr) (fun _ i _ => (keysJ j).length - (intOf i).toNat)
  case atStart => exact ⟨0, rfl, Nat.zero_le _, none, 0, [], rfl, rfl, by simpa using PRow.nil (fun _ h => h.elim) (Nat.le_refl _), fun i _ h => absurd h (Nat.not_lt_zero i), Below.refl _ _⟩
  case round =>
    obtain ⟨m, rfl, hm, a5, q5, xs, rfl, rfl, hrow, hvals, hbw⟩ := hrel
    have ROW := Lib.hid hrow; have VALS := Lib.hid hvals; have BW := Lib.hid hbw
    clear hrow hvals hbw
    by_cases hlt : xs.length < (keysJ j).length
    · obtain ⟨st, hst⟩ : ∃ st, st = (keysS j)[xs.length]'(by have := HK.out; omega) := ⟨_, rfl⟩
      obtain ⟨kb, kcap, hke, hkb, hkl⟩ := K3.out.form (by omega)
      obtain ⟨kc9, hkc⟩ : ∃ kc, kc = stpC st := ⟨_, rfl⟩
      have h6 : At6 wr kb (xs.length * 6) kc9 := by
        have hx : xs.length < (kvc j).length := by rw [kvc_len]; exact hlt
        have := row_at6 K3.out (g := kb) (by rw [hke]; rfl) hx
        have e : (kvc j)[xs.length] = kc9 := by rw [hkc, hst]; simp [kvc_steps]
        rw [e] at this
        exact this.below BW.out hkl
      cases hke
      have KC := Lib.hid hkc; have ST := Lib.hid hst
      have NX := Lib.hid (show (keysS j).take (xs.length + 1) = (keysS j).take xs.length ++ [st] from by rw [List.take_add_one, List.getElem?_eq_getElem (by have := HK.out; omega), hst]; rfl)
      have g0 := h6.c0; have g1 := h6.c1; have g2 := h6.c2; have g3 := h6.c3; have g4 := h6.c4; have g5 := h6.c5
      clear hkc hst h6
      obtain ⟨k8, h8, s8, la8, ll8, lc8, ka8, kl8, kc8, va8, vl8, vc8⟩ := kc9
      simp only at g0 g1 g2 g3 g4 g5
      go_upto_region 6 with fail
      obtain ⟨vb, vo, d, hae, hvbS, h6v, hvv⟩ := EL.out xs.length (by have := HK.out; omega)
      subst hae
      obtain ⟨Wk, hWk⟩ : ∃ Wk, Wk = wr.alloc (.cells (VC.arr ⟨k8, h8, s8, la8, ll8, lc8, ka8, kl8, kc8, va8, vl8, vc8⟩) 26) := ⟨_, rfl⟩
      have hbk : Below wr.heap.size wr Wk := by rw [hWk]; exact (Below.refl _ _).alloc (Nat.le_refl _) _
      have hszk : Wk.heap.size = wr.heap.size + 1 := by rw [hWk]; simp
      have KBX : Hid (Box Wk wr.heap.size ⟨k8, h8, s8, la8, ll8, lc8, ka8, kl8, kc8, va8, vl8, vc8⟩) := Lib.hid (by rw [hWk]; exact box_alloc _ _)
      have e3 := BW.out.size
      have e1 := HB.out.size
      have HB3k := Lib.hid (BW.out.trans (hbk.mono e3))
      have HBK : Hid (Below w.heap.size w Wk) := Lib.hid (HB.out.trans ((HB2.out.mono (by omega)).trans ((HB3.out.mono (by omega)).trans (HB3k.out.mono (by omega)))))
      have BXK := Lib.hid (BXW.out.below HB3k.out hlt0)
      have hvb1 := HS.out vb hvbS
      have hvb : vb < Wk.heap.size := by omega
      have H1k : Hid (Below W1.heap.size W1 Wk) := Lib.hid (HB2.out.trans ((HB3.out.mono (by omega)).trans (HB3k.out.mono (by omega))))
      have H6 := Lib.hid (h6v.below H1k.out (by omega))
      have HVV := Lib.hid hvv
      have HBk := Lib.hid hbk
      have hltn : xs.length < n := by have := HN.out; have := HK.out; omega
      clear h6v hvv g0 g1 g2 g3 g4 g5 hbk
      show Code.wp _ _ _ _ (wr.alloc (.cells (VC.arr ⟨k8, h8, s8, la8, ll8, lc8, ka8, kl8, kc8, va8, vl8, vc8⟩) 26))
      rw [← hWk]
      clear hWk
      rename_i J0 K0 hJ0 hK0
      obtain ⟨L, hL⟩ : ∃ L : List KnE, L = [.v (.slice a5 xs.length q5), .v (SC.val ⟨pa, pn, pc, ⟨k0, h0, s0, la, ll, lc, ka, kl, kc, va, vl, vc⟩⟩), .v (VC.val ⟨k8, h8, s8, la8, ll8, lc8, ka8, kl8, kc8, va8, vl8, vc8⟩), .v (.slice (some ⟨vb, vo, none⟩) n q), .v (.int .i64 (xs.length : Int)), .v (.pointer (some ⟨vb, vo + xs.length * 6, none⟩)), .v (VC.val d), .gen none (SpIs Wk.heap.size (pn + 1) (cellsOf (ps ++ [⟨k8, h8, s8, la8, ll8, lc8, ka8, kl8, kc8, va8, vl8, vc8⟩])) d) spIs_st, .gen (some 7) (OneSp Wk.heap.size (pn + 1) (cellsOf (ps ++ [⟨k8, h8, s8, la8, ll8, lc8, ka8, kl8, kc8, va8, vl8, vc8⟩])) d) oneSp_st] := ⟨_, rfl⟩
      have FAR : ∀ {b : Nat}, ∀ k ∈ L, k.old ≠ some b := by
        intro b k hk
        rw [hL] at hk
        simp only [List.mem_cons, List.not_mem_nil, or_false] at hk
        rcases hk with rfl | rfl | rfl | rfl | rfl | rfl | rfl | rfl | rfl <;> (intro e; cases e)
      subst hL
      refine planKF 11 35 [(0, 23), (1, 24), (2, 25), (3, 26), (4, 27), (5, 28), (6, 29), (7, 30), (8, 31)] [(1, .pointer (some ⟨w.heap.size, 0, none⟩)), (3, .slice a5 xs.length q5), (4, .slice (some ⟨vb, vo, none⟩) n q), (6, .int .i64 (xs.length : Int)), (7, .pointer (some ⟨wr.heap.size, 0, none⟩))] [.v (.slice a5 xs.length q5), .v (SC.val ⟨pa, pn, pc, ⟨k0, h0, s0, la, ll, lc, ka, kl, kc, va, vl, vc⟩⟩), .v (VC.val ⟨k8, h8, s8, la8, ll8, lc8, ka8, kl8, kc8, va8, vl8, vc8⟩), .v (.slice (some ⟨vb, vo, none⟩) n q), .v (.int .i64 (xs.length : Int)), .v (.pointer (some ⟨vb, vo + xs.length * 6, none⟩)), .v (VC.val d), .gen none (SpIs Wk.heap.size (pn + 1) (cellsOf (ps ++ [⟨k8, h8, s8, la8, ll8, lc8, ka8, kl8, kc8, va8, vl8, vc8⟩])) d) spIs_st, .gen (some 7) (OneSp Wk.heap.size (pn + 1) (cellsOf (ps ++ [⟨k8, h8, s8, la8, ll8, lc8, ka8, kl8, kc8, va8, vl8, vc8⟩])) d) oneSp_st] (by kernel_rfl) (by kernel_rfl) (by kernel_rfl) rfl ?_ (by kernel_rfl) (by rfl) (by simp) ?_ (by kernel_rfl) ?_ ?_
      · intro p hp
        simp only [List.mem_cons, List.not_mem_nil, or_false] at hp
        rcases hp with rfl | rfl | rfl | rfl | rfl <;> rfl
      · intro k hk b hb
        exact absurd hb (FAR k hk)
      · intro i o ho hT
        rcases i with _ | _ | _ | _ | _ | _ | _ | _ | _ | i
        · obtain rfl := Option.some.inj ho
          exact kn_move 3 (by rfl) rfl rfl (by simp)
        · obtain rfl := Option.some.inj ho
          exact kn_loadSp 1 (by rfl) rfl rfl (by simp) BXK.out FAR
        · obtain rfl := Option.some.inj ho
          exact kn_load6 7 (by rfl) rfl rfl (by simp) KBX.out FAR
        · obtain rfl := Option.some.inj ho
          exact kn_move 4 (by rfl) rfl rfl (by simp)
        · obtain rfl := Option.some.inj ho
          exact kn_move 6 (by rfl) rfl rfl (by simp)
        · obtain rfl := Option.some.inj ho
          exact kn_index 3 4 26 27 hltn (by rfl) rfl rfl (by simp) rfl (by kernel_rfl) (by simp) rfl (by kernel_rfl)
        · obtain rfl := Option.some.inj ho
          exact kn_loadAt 5 28 (by rfl) rfl rfl (by simp) rfl (by kernel_rfl) H6.out hvb FAR
        · obtain rfl := Option.some.inj ho
          exact kn_below (s := ⟨pa, pn, pc, ⟨k0, h0, s0, la, ll, lc, ka, kl, kc, va, vl, vc⟩⟩) (ps := ps) (k := ⟨k8, h8, s8, la8, ll8, lc8, ka8, kl8, kc8, va8, vl8, vc8⟩) (v := d) 1 2 6 24 25 29 _ (by rfl) rfl rfl (by simp) rfl (by kernel_rfl) (by simp) rfl (by kernel_rfl) (by simp) rfl (by kernel_rfl) (fun w' hsz hk => below_any ⟨pa, pn, pc, ⟨k0, h0, s0, la, ll, lc, ka, kl, kc, va, vl, vc⟩⟩ ps ⟨k8, h8, s8, la8, ll8, lc8, ka8, kl8, kc8, va8, vl8, vc8⟩ d (LIES.out.keep fun b o e h => (hk b (by have := PB.out b o e h; omega) FAR).trans (HBK.out.block b (PB.out b o e h))) PL.out (by have := PN.out; show pn ≤ 1000; omega) PC.out PZ.out (fun b o e h => by have := PB.out b o e h; omega))
        · obtain rfl := Option.some.inj ho
          exact kn_oneSp 7 30 rfl rfl (by simp) rfl (by kernel_rfl)
        · simp at hT
          omega
      · intro u S' w' hp hR fuel listed hsz' hl hf
        obtain rfl := listed_eq hsz' hl
        have eA := hR.1 (0, 23) (by simp); have eB := hR.1 (8, 31) (by simp)
        simp only at eA eB
        rw [planE_v hp (by rfl) (j := 0) (x := .slice a5 xs.length q5) rfl rfl] at eA
        obtain ⟨⟨N, p', q', lo, hv31, hSN, hcell, hne, hlo, hown, hSg⟩, hSb⟩ := hp.val 8 _ _ _ rfl rfl (fun k M φ hk => by
          rcases k with _ | _ | _ | _ | _ | _ | _ | _ | _ | k
          all_goals first | (cases hk; done) | (exact absurd hk (by unfold knE; simp)))
        rw [hv31] at eB
        have hlow : Below Wk.heap.size Wk w' := ⟨hp.os, hp.tape, hp.output, hp.size, fun b hb => planE_keep hp b hb FAR⟩
        have R1 := ((ROW.out.below HBk.out).below hlow)
        have hpath : PathR w' (New lo w') (p ++ [st]) ⟨p', pn + 1, q', d⟩ := path_row (d := d) (by have := PL.out; have := PN.out; simp only at *; omega) PR.out (by rw [← KC.out]; exact hown)
        have hoff : PathR w' (Off (fun _ => False) w3.heap.size w' (.slice a5 xs.length q5)) (p ++ [st]) ⟨p', pn + 1, q', d⟩ := hpath.mono fun b hb => Or.inr ⟨⟨by have := hb.1; omega, hb.2⟩, fun e => by have := (ROW.out.1.lt b e.symm).2; have := hb.1; omega⟩
        obtain ⟨v', w9, hr, h2, h3, h4'⟩ := run_append_all (P := Tryz.prog) w' 42 42 w3.heap.size 45 i0 zeroSC 7 128 Tryz.underlying42 I0.out I1.out I2.out I3.out rfl (by omega) (.slice a5 xs.length q5) xs.length (spotCells xs) R1.1 (.slice (some ⟨N, 0, none⟩) 1 1) 1 (SC.arr ⟨p', pn + 1, q', d⟩).toList (Or.inr ⟨⟨N, 0, none⟩, 1, rfl, rfl, World.news_of_block hcell⟩) (SC.cells _) (by unfold maxLen; omega) (by omega) (by have := hp.size; omega)
        have R2 := R1.more (l' := [p ++ [st]]) (ys := [⟨p', pn + 1, q', d⟩]) (by rw [spotCells_one]; exact h2) h3 h4' rfl (fun i hi hx => by
          have h0 : i = 0 := Nat.lt_one_iff.1 hi
          subst h0
          exact hoff)
        have hu : 2 ≤ fuel := Nat.le_trans (Nat.le_of_ble_eq_true rfl) hf
        have HLOW := Lib.hid hlow; have HG := Lib.hid h3
        have hrowlt : ∀ b, (Value.slice a5 xs.length q5).ownBlock = some b → w3.heap.size ≤ b := fun b e => (ROW.out.1.lt b e).1
        have VN := Lib.hid hrowlt
        have RR := Lib.hid R2
        clear hf hl hsz' hSb hSg hown hcell hlow hp hpath hoff R1 R2 hrowlt
        refine wpAny_two 9 10 _ _ rfl rfl (by kernel_rfl) (by kernel_rfl) (by kernel_rfl) rfl rfl (fun K hK => wp_of_run v' (run_append_op (.tmp 23) (.tmp 31) 42 rfl eA eB hr) hK) (fun K hK => wp_assign (.tmp 32) v' rfl (eval_put_self (by rw [frameOf_size]; exact (by decide : 32 < 35))) hK) ?_ fuel hu
        simp only [frameOf, frameL, List.zipIdx_cons, List.zipIdx_nil, Act.put, List.setIfInBounds_toArray, List.set_cons_zero, List.set_cons_succ, Nat.zero_add, Nat.reduceAdd]
        refine hK0 _ _ ?_
        clear hK0
        obtain ⟨a6, q6, rfl⟩ := RR.out.form
        go_wp2_with fail
        go_roundw
        case rel =>
          refine ⟨xs.length + 1, by go_num, by omega, a6, q6, xs ++ [⟨p', pn + 1, q', d⟩], by simp, by simp, by rw [NX.out, List.map_append]; simpa using RR.out, fun i hi hx => ?_, ?_⟩
          · have hsame : ∀ b, S b → w9.heap[b]? = wr.heap[b]? := fun b hb => by
              have hb0 := HS.out b hb
              refine (HG.out.block b (by have := HLOW.out.size; omega) (fun e => by have := VN.out b e.symm; omega)).trans ((HLOW.out.block b (by omega)).trans (HBk.out.block b (by omega)))
            rcases Nat.lt_or_ge i xs.length with h | h
            · rw [List.getElem_append_left h]
              exact (VALS.out i hi h).go hsame (fun _ h => h)
            · have e0 : i = xs.length := by simp at hx; omega
              subst e0
              rw [List.getElem_append_right (by omega)]
              simp only [Nat.sub_self, List.getElem_cons_zero]
              exact HVV.out.go (fun b hb => (hsame b hb).trans ((HB2.out.trans ((HB3.out.mono (by omega)).trans (BW.out.mono (by omega)))).block b (by have := HS.out b hb; omega))) (fun _ h => h)
          · exact ((BW.out.trans ((HBk.out.trans (HLOW.out.mono (by omega))).mono BW.out.size)).grown HG.out (by have := HLOW.out.size; omega) (fun k hk => VN.out k hk))
        case measure => simp [intOf]; omega
    · obtain ⟨hx⟩ : Nonempty (xs.length = (keysJ j).length) := ⟨by omega⟩
      go_wp2_with fail
      go_ret
      refine ⟨a5, xs.length, q5, xs, w3.heap.size, rfl, by have := HB.out.size; omega, ?_, VALS.out, ?_⟩
      · have e : (keysS j).take xs.length = keysS j := by rw [hx, ← HK.out.1, List.take_length]
        rw [← e]
        exact ROW.out
      · exact HB.out.trans ((HB2.out.mono (by omega)).trans ((HB3.out.mono (by omega)).trans (BW.out.mono (by omega))))
end Go.Proofs.YtnaijgdffbfapaaGreatDoor

namespace Go.Proofs.YtnaijgdffbfapaaGreatDoor
open Go.RowKit

/-- The ways of the first m parts. -/
def waysTake (j : J) (m : Nat) : List (List Stp) := [] :: (((keysS j).zip (valsJ j)).take m).flatMap fun x => (waysJ x.2).map (x.1 :: ·)
theorem waysTake_zero (j : J) : waysTake j 0 = [[]] := by simp [waysTake]
theorem waysTake_all (j : J) : waysTake j (valsJ j).length = waysJ j := by
  rw [ways_zip j]
  unfold waysTake
  rw [List.take_of_length_le (by rw [List.length_zip]; exact Nat.min_le_right _ _)]
theorem waysTake_succ (j : J) {m : Nat} (h : m < (keysS j).length) (h' : m < (valsJ j).length) : waysTake j (m + 1) = waysTake j m ++ (waysJ (valsJ j)[m]).map ((keysS j)[m] :: ·) := by
  unfold waysTake
  have hz : m < ((keysS j).zip (valsJ j)).length := by simp; omega
  rw [List.take_add_one, List.getElem?_eq_getElem hz, Option.toList_some, List.flatMap_append, List.cons_append]
  simp
theorem waysTake_len (j : J) (m : Nat) : (waysTake j m).length ≤ j.n := by
  have h : (waysTake j m).length ≤ (waysJ j).length := by
    rw [ways_zip j]
    unfold waysTake
    rw [List.length_cons, List.length_cons]
    have e : ((keysS j).zip (valsJ j)).flatMap (fun x => (waysJ x.2).map (x.1 :: ·)) = ((((keysS j).zip (valsJ j)).take m).flatMap fun x => (waysJ x.2).map (x.1 :: ·)) ++ (((keysS j).zip (valsJ j)).drop m).flatMap fun x => (waysJ x.2).map (x.1 :: ·) := by
      rw [← List.flatMap_append, List.take_append_drop]
    rw [e, List.length_append]
    omega
  rw [waysJ_len _ j (Nat.le_refl _)] at h
  exact h
theorem JOK.vals {j : J} (h : JOK j) {i : Nat} (hi : i < (valsJ j).length) : JOK (valsJ j)[i] := by
  rw [JOK] at h
  cases j with
  | arr l => exact h.2.2.2.2.1 i hi
  | obj m =>
    have hi' : i < m.length := by simpa [valsJ, J.ents] using hi
    have := h.2.2.2.2.2.2.2 i hi'
    simpa [valsJ, J.ents] using this
  | _ => simp [valsJ] at hi

theorem spotCells_length (xs : List SC) : (spotCells xs).length = xs.length * 7 := by
  induction xs with
  | nil => rfl
  | cons s xs ih =>
    have e : spotCells (s :: xs) = s.arr.toList ++ spotCells xs := rfl
    rw [e, List.length_append, ih, List.length_cons]
    simp [SC.arr]
    omega
theorem spotCells_get : ∀ (xs : List SC) {i k : Nat} (h : i < xs.length), k < 7 → (spotCells xs)[i * 7 + k]? = xs[i].arr.toList[k]?
  | [], i, _, h, _ => absurd h (Nat.not_lt_zero i)
  | s :: xs, 0, k, _, hk => by
    have e : spotCells (s :: xs) = s.arr.toList ++ spotCells xs := rfl
    rw [e, List.getElem?_append_left (by simp [SC.arr]; omega)]
    simp
  | s :: xs, i + 1, k, h, hk => by
    have e : spotCells (s :: xs) = s.arr.toList ++ spotCells xs := rfl
    have hl : s.arr.toList.length = 7 := by simp [SC.arr]
    rw [e, List.getElem?_append_right (by omega), hl, show (i + 1) * 7 + k - 7 = i * 7 + k by omega, spotCells_get xs (by simpa using h) hk]
    simp
/-- A spot in a row. -/
theorem spot_at {w : World} {base g : Nat} {v : Value} {n : Nat} {xs : List SC} (h : w.ownsRow base 45 7 v n (spotCells xs)) (hg : v.ownBlock = some g) {i : Nat} (hi : i < xs.length) :
    w.cell? ⟨g, i * 7, none⟩ = some (.slice xs[i].pa xs[i].pn xs[i].pc) ∧ w.cell? ⟨g, i * 7 + 1, none⟩ = some (.int .i64 xs[i].v.k) ∧ w.cell? ⟨g, i * 7 + 2, none⟩ = some (.int .i64 xs[i].v.h) ∧ w.cell? ⟨g, i * 7 + 3, none⟩ = some (.string xs[i].v.s) ∧
    w.cell? ⟨g, i * 7 + 4, none⟩ = some (.slice xs[i].v.la xs[i].v.ll xs[i].v.lc) ∧ w.cell? ⟨g, i * 7 + 5, none⟩ = some (.slice xs[i].v.ka xs[i].v.kl xs[i].v.kc) ∧ w.cell? ⟨g, i * 7 + 6, none⟩ = some (.slice xs[i].v.va xs[i].v.vl xs[i].v.vc) := by
  have hc := h.cells hg
  have one : ∀ k, k < 7 → ∀ u, xs[i].arr.toList[k]? = some u → w.cell? ⟨g, i * 7 + k, none⟩ = some u := fun k hk u hu => by
    have := hc (i * 7 + k) u (by rw [spotCells_get xs hi hk]; exact hu)
    rw [addr_add, Nat.zero_add] at this
    exact this
  exact ⟨one 0 (by omega) _ rfl, one 1 (by omega) _ rfl, one 2 (by omega) _ rfl, one 3 (by omega) _ rfl, one 4 (by omega) _ rfl, one 5 (by omega) _ rfl, one 6 (by omega) _ rfl⟩

/-- A row of one spot. -/
theorem one_row {w : World} {N : Nat} {s : SC} (h : SBox w N s) : w.ownsRow N 45 7 (.slice (some ⟨N, 0, none⟩) 1 1) 1 (spotCells [s]) :=
  ⟨by rw [spotCells_one]; rfl, Or.inr ⟨N, 1, s.arr, rfl, Nat.le_refl _, h, Nat.le_refl _, by decide, rfl, by rw [spotCells_one]; rfl⟩⟩

/-- All blocks of a row's own are written, and no other old one. -/
theorem kept_step {B NB : Nat} {a w w' w'' : World} {v : Value} (h : a.grownBy w (some NB)) (hB : a.heap.size = B) (hb : Below w.heap.size w w') (hg : w'.grownBy w'' v.ownBlock) (hv : ∀ g, v.ownBlock = some g → g = NB ∨ B ≤ g) : a.grownBy w'' (some NB) :=
  ⟨hg.os.trans (hb.os.trans h.os), hg.tape.trans (hb.tape.trans h.tape), hg.output.trans (hb.output.trans h.output), Nat.le_trans h.size (Nat.le_trans hb.size hg.size), fun k hk hne => by
    have h1 := h.size; have h2 := hb.size
    refine (hg.block k (by omega) (fun e => ?_)).trans ((hb.block k (by omega)).trans (h.block k hk hne))
    rcases hv k e.symm with h3 | h3
    · exact hne (by rw [h3])
    · omega⟩

def SpotsPost (S : Nat → Prop) (p : List Stp) (j : J) (w : World) (e : Ending) (w' : World) : Prop :=
  ∃ a n q xs lo, e = .returned (.slice a n q) ∧ w.heap.size ≤ lo ∧ PRow S lo ((waysJ j).map (p ++ ·)) (.slice a n q) xs w' ∧ Below w.heap.size w w'
def SpotsAt (S : Nat → Prop) (p : List Stp) (j : J) (NB : Nat) (w2 : World) (m : Nat) (v : Value) (wr : World) : Prop :=
  ∃ a q xs, v = .slice a xs.length q ∧ PRow S NB ((waysTake j m).map (p ++ ·)) v xs wr ∧ w2.grownBy wr (some NB) ∧ ∀ g, v.ownBlock = some g → g = NB ∨ w2.heap.size ≤ g

set_option maxRecDepth 100000 in
theorem spots_any : ∀ (n : Nat) (S : Nat → Prop) (p : List Stp) (j : J) (s : SC) (w : World), SizeOf.sizeOf j ≤ n → JOK j → PathR w S p s → VR w S j s.v → p.length + j.n ≤ 400 → (∀ b, S b → b < w.heap.size) → Calls Tryz.prog 16 #[s.val] w (SpotsPost S p j w) := by
  intro n
  induction n with
  | zero => intro S p j s w hn; cases j <;> simp at hn
  | succ n ih =>
    intro S p j s w hn hj hp hv h4 hS
    obtain ⟨i0, hi, hz0, hz1, hz2⟩ := info_parts info_spot
    have I0 := Lib.hid hi; have I1 := Lib.hid hz0; have I2 := Lib.hid hz1; have I3 := Lib.hid hz2
    obtain ⟨W1, hW1⟩ : ∃ W1, W1 = (w.alloc (.cells s.arr 45)).alloc (.cells s.arr 45) := ⟨_, rfl⟩
    have hb : Below w.heap.size w W1 := by rw [hW1]; exact ((Below.refl _ _).alloc (Nat.le_refl _) _).alloc (by simp) _
    have hs1 : W1.heap.size = w.heap.size + 2 := by rw [hW1]; simp
    have bx : SBox W1 w.heap.size s := by rw [hW1]; exact (sbox_alloc w s).below ((Below.refl (w.heap.size + 1) _).alloc (by simp) _) (by omega)
    have bx1 : SBox W1 (w.heap.size + 1) s := by
      rw [hW1]
      have := sbox_alloc (w.alloc (.cells s.arr 45)) s
      simp only [World.size_alloc] at this
      exact this
    have hp1 : PathR W1 S p s := hp.go (fun b h => hb.block b (hS b h)) (fun _ h => h)
    have hv1 : VR W1 S j s.v := hv.go (fun b h => hb.block b (hS b h)) (fun _ h => h)
    have hS1 : ∀ b, S b → b < W1.heap.size := fun b h => by have := hS b h; omega
    have WITHIN := Lib.hid (within_any s hj hp1 hv1 (by omega) hS1)
    have R0 : PRow S (w.heap.size + 1) ((waysTake j 0).map (p ++ ·)) (.slice (some ⟨w.heap.size + 1, 0, none⟩) 1 1) [s] W1 := by
      refine ⟨one_row bx1, by simp [waysTake_zero], fun i hi hx => ?_, fun b h => by have := hS b h; omega, by omega⟩
      have h0 : i = 0 := Nat.lt_one_iff.1 hx
      subst h0
      simp only [waysTake_zero, List.map_cons, List.map_nil, List.append_nil, List.getElem_cons_zero]
      exact hp1.mono fun b h => Or.inl h
    have ROW0 := Lib.hid R0
    have HB := Lib.hid hb; have BX := Lib.hid bx
    have HS := Lib.hid hS; have HV := Lib.hid hv1; have HP := Lib.hid hp1; have HJ := Lib.hid hj; have IHH := Lib.hid ih; have HN := Lib.hid hn
    obtain ⟨c0, c1, c2, c3, c4, c5, c6⟩ := bx.cs
    clear hb bx bx1 hS hS1 hv hp hj hv1 hp1 hi hz0 hz1 hz2 ih hn R0
    obtain ⟨pa, pn, pc, ⟨k0, h0, s0, la, ll, lc, ka, kl, kc, va, vl, vc⟩⟩ := s
    unfold SC.val SC.arr at *
    simp only at c0 c1 c2 c3 c4 c5 c6
    go_enter Tryz.func16, Tryz.ntmps16
    go_wp2_with fail
    rw [← hW1]
    refine WITHIN.out.mono ?_
    rintro e w2 ⟨a, m0, q, ws, lo1, rfl, hlo1, hrow, hvals, hb2⟩
    obtain ⟨a', c', e9⟩ := hrow.form
    cases e9
    have hwl : ws.length = (keysS j).length := by simpa using hrow.2.1
    have hkl : (keysS j).length = (valsJ j).length := keysS_len j
    have KL : Hid (ws.length = (keysS j).length ∧ (keysS j).length = (valsJ j).length) := Lib.hid ⟨hwl, hkl⟩
    have hw4 : ws.length ≤ 400 := by
      have h1 := waysTake_len j (valsJ j).length
      have h2 := (kvc_le HJ.out)
      have h3 := keysS_keysJ j
      rw [← kvc_len] at h3
      rcases h2.2.2 with h | h <;> simp [kvc, h] at h3 <;> omega
    have HV2 := Lib.hid hvals; have WROW := Lib.hid hrow; have HB2 := Lib.hid hb2
    have hs2 := hb2.size
    have R2 := Lib.hid (ROW0.out.below hb2)
    clear hrow hvals hb2 hwl hkl c0 c1 c2 c3 c4 c5 c6 hW1 WITHIN
    go_wp2_with fail
    go_loopw [3, 11] (fun u i wr => ∃ m : Nat, i = .int .i64 m ∧ m ≤ ws.length ∧ SpotsAt S p j (w.heap.size + 1) w2 m u wr) (fun _ i _ => ws.length - (intOf i).toNat)
    case atStart => exact ⟨0, rfl, Nat.zero_le _, some ⟨w.heap.size + 1, 0, none⟩, 1, [_], rfl, R2.out, grown_of_below0 (Below.refl _ _) _, fun g hg => Or.inl (by cases hg; rfl)⟩
    case round =>
      obtain ⟨m, rfl, hm, a5, q5, xs, rfl, hrow5, hkept, hown5⟩ := hrel
      have hx4 : xs.length ≤ 400 := by have h1 := hrow5.2.1; have h2 := waysTake_len j m; simp at h1; omega
      have ROW5 := Lib.hid hrow5; have KEPT := Lib.hid hkept; have OWN5 := Lib.hid hown5
      clear hrow5 hkept hown5
      by_cases hlt : m < ws.length
      · obtain ⟨gW, cap, e8, hgl, hgs⟩ := WROW.out.1.form (by omega)
        cases e8
        have hblk := KEPT.out.block gW hgs (fun e => by cases e; omega)
        obtain ⟨f0, f1, f2, f3, f4, f5, f6⟩ := spot_at WROW.out.1 (g := gW) rfl hlt
        have g0 := (World.cell?_of_block (a := ⟨gW, m * 7, none⟩) hblk).trans f0
        have g1 := (World.cell?_of_block (a := ⟨gW, m * 7 + 1, none⟩) hblk).trans f1
        have g2 := (World.cell?_of_block (a := ⟨gW, m * 7 + 2, none⟩) hblk).trans f2
        have g3 := (World.cell?_of_block (a := ⟨gW, m * 7 + 3, none⟩) hblk).trans f3
        have g4 := (World.cell?_of_block (a := ⟨gW, m * 7 + 4, none⟩) hblk).trans f4
        have g5 := (World.cell?_of_block (a := ⟨gW, m * 7 + 5, none⟩) hblk).trans f5
        have g6 := (World.cell?_of_block (a := ⟨gW, m * 7 + 6, none⟩) hblk).trans f6
        have hmk : m < (keysS j).length := by have := KL.out; omega
        have hmv : m < (valsJ j).length := by have := KL.out; omega
        obtain ⟨st, hst⟩ : ∃ st, st = (keysS j)[m] := ⟨_, rfl⟩
        have px := WROW.out.2.2.1 m (by simpa using hmk) hlt
        have vx := HV2.out m hmv hlt
        obtain ⟨jv, hjv⟩ : ∃ jv, jv = (valsJ j)[m] := ⟨_, rfl⟩
        obtain ⟨hn1, hn2⟩ := vals_n j hmv
        have jok := JOK.vals HJ.out hmv
        have hsucc := waysTake_succ j hmk hmv
        simp only [List.getElem_map] at px
        rw [← hst] at px hsucc
        rw [← hjv] at vx hn1 hn2 jok hsucc
        generalize ws[m] = x at px vx g0 g1 g2 g3 g4 g5 g6
        obtain ⟨WK, hWK⟩ : ∃ WK, WK = wr.alloc (.cells x.arr 45) := ⟨_, rfl⟩
        have hbk : Below wr.heap.size wr WK := by rw [hWK]; exact (Below.refl _ _).alloc (Nat.le_refl _) _
        have hszk : WK.heap.size = wr.heap.size + 1 := by rw [hWK]; simp
        have hsame : ∀ b, (S b ∨ New lo1 w2 b) → WK.heap[b]? = w2.heap[b]? := fun b hb => by
          have h1 := KEPT.out.size
          have h3 : b < w2.heap.size ∧ b ≠ w.heap.size + 1 := by
            rcases hb with h | h
            · have := HS.out b h; omega
            · have h5 := h.1; have h6 := h.2; omega
          exact (hbk.block b (by omega)).trans (KEPT.out.block b h3.1 (fun e => h3.2 (Option.some.inj e)))
        have IH := Lib.hid (IHH.out (fun b => S b ∨ New lo1 w2 b) (p ++ [st]) jv x WK (by have := HN.out; omega) jok (px.go (fun b hb => hsame b (Or.inr (hb.elim (fun h => h.elim) (fun h => h.1)))) (fun b hb => Or.inr (hb.elim (fun h => h.elim) (fun h => h.1)))) (vx.go (fun b hb => hsame b (Or.inl hb)) (fun b hb => Or.inl hb)) (by simp; omega)
          (fun b hb => by have h1 := KEPT.out.size; rcases hb with h | h; have := HS.out b h; omega; have := h.2; omega))
        have HBK := Lib.hid hbk; have SUCC := Lib.hid hsucc; have JN := Lib.hid hn1
        have hs5 := KEPT.out.size
        clear hbk hsucc hsame px vx jok hn1 hn2 hjv hst f0 f1 f2 f3 f4 f5 f6 hblk hmk hmv
        rw [hWK] at IH
        obtain ⟨pa9, pn9, pc9, ⟨k9, h9, s9, la9, ll9, lc9, ka9, kl9, kc9, va9, vl9, vc9⟩⟩ := x
        simp only at g0 g1 g2 g3 g4 g5 g6
        go_wp2_with fail
        refine IH.out.mono ?_
        rintro e w4 ⟨a2, n2, q2, ys, lo2, rfl, hlo2, hrow4, hb4⟩
        obtain ⟨a6, c6, e7⟩ := hrow4.form
        cases e7
        have hb4' : Below WK.heap.size WK w4 := by rw [hWK]; exact hb4
        have hlo2' : WK.heap.size ≤ lo2 := by rw [hWK]; exact hlo2
        have hb4w : Below wr.heap.size wr w4 := HBK.out.trans (hb4'.mono (by omega))
        have R4 := Lib.hid hrow4; have R5 := Lib.hid (ROW5.out.below hb4w); have B4 := Lib.hid hb4w
        have hs4 := hb4w.size
        have hsum : xs.length + ys.length ≤ 400 := by
          have h1 := waysTake_len j (m + 1)
          rw [SUCC.out, List.length_append, List.length_map] at h1
          have h2 := ROW5.out.2.1; have h3 := hrow4.2.1
          rw [List.length_map] at h2 h3
          omega
        clear hrow4 hb4 hb4' hb4w hlo2 IH hWK g0 g1 g2 g3 g4 g5 g6
        go_wp2_with (at_builtin; refine wpList_append_row rfl _ _ 42 rfl (w.heap.size + 1) 45 i0 zeroSC 7 128 Tryz.underlying42 I0.out I1.out I2.out I3.out rfl (by omega) (.slice a5 xs.length q5) xs.length (spotCells xs) rfl R5.out.1 (.slice a2 ys.length q2) ys.length lo2 (spotCells ys) rfl R4.out.1 (spotCells_all ys) (by unfold maxLen; omega) (by omega) (by omega) ?_; intro v3 w5 hown3 hgrow hat; obtain ⟨a3, cap3, rfl⟩ := row_form hown3; have OW := Lib.hid hown3; have GW := Lib.hid hgrow; have AT := Lib.hid hat; clear hown3 hgrow hat)
        go_roundw
        case rel =>
          have hmore := R5.out.more (l' := (waysJ jv).map ((p ++ [st]) ++ ·)) (ys := ys) OW.out GW.out AT.out R4.out.2.1 (fun i hi hx => (R4.out.2.2.1 i hi hx).mono (fun b hb => by
            rcases hb with (h | h) | h
            · exact Or.inl h
            · have h1 := h.1; have h2 := h.2
              refine Or.inr ⟨⟨by omega, by omega⟩, fun e => ?_⟩
              rcases OWN5.out b e.symm with h3 | h3 <;> omega
            · have h1 := h.1.1; have h2 := h.1.2
              refine Or.inr ⟨⟨by omega, h2⟩, fun e => ?_⟩
              have := (ROW5.out.1.lt b e.symm).2
              omega))
          have hmap : (waysTake j (m + 1)).map (p ++ ·) = (waysTake j m).map (p ++ ·) ++ (waysJ jv).map ((p ++ [st]) ++ ·) := by
            rw [SUCC.out, List.map_append, List.map_map]
            congr 1
            apply List.map_congr_left
            intro x _
            simp
          refine ⟨m + 1, by go_num, by omega, a3, cap3, xs ++ ys, by simp, by rw [hmap]; exact hmore, kept_step KEPT.out rfl B4.out GW.out OWN5.out, fun g hg => ?_⟩
          rcases AT.out with h | h
          · rw [h] at hg; exact OWN5.out g hg
          · rw [h] at hg; cases hg; exact Or.inr (by omega)
        case measure => simp [intOf]; omega
      · obtain rfl : m = ws.length := by omega
        go_wp2_with fail
        go_ret
        refine ⟨a5, xs.length, q5, xs, w.heap.size + 1, rfl, by omega, ?_, ?_⟩
        · have e : waysTake j ws.length = waysJ j := by rw [KL.out.1, KL.out.2, waysTake_all]
          rw [← e]
          exact ROW5.out
        · have hk := KEPT.out
          have hlow : Below w.heap.size w w2 := HB.out.trans (HB2.out.mono (by omega))
          exact hlow.trans ⟨hk.os, hk.tape, hk.output, hk.size, fun b hb => hk.block b (by omega) (fun e => by cases e; omega)⟩
end Go.Proofs.YtnaijgdffbfapaaGreatDoor

namespace Go.Proofs.YtnaijgdffbfapaaGreatDoor
open Go.RowKit

theorem info_values : (Tryz.prog.info? 23).map (fun i => (i.zero, i.size, i.bytes)) = some (some (.slice none 0 0), 1, 24) := by kernel_rfl
def WaysPost (S : Nat → Prop) (j : J) (w : World) (e : Ending) (w' : World) : Prop :=
  ∃ (a : Option Addr) (n q : Nat) (xs : List SC) (lo : Nat), e = .returned (.slice a n q) ∧ n = (waysJ j).length ∧ w.heap.size ≤ lo ∧ xs.length = n ∧ w'.ownsRow lo 23 1 (.slice a n q) n (xs.map SC.path) ∧ (∀ i (_ : i < (waysJ j).length) (h : i < xs.length), PathR w' (fun b => S b ∨ New w.heap.size w' b) (waysJ j)[i] xs[i]) ∧ Below w.heap.size w w'

theorem news_arr (w : World) (o : Obj) (cs : Array Value) (t : TypeId) : ∀ j u, cs.toList[j]? = some u → ((w.alloc o).alloc (.cells cs t)).cell? ((⟨w.heap.size + 1, 0, none⟩ : Addr).add j) = some u := by
  have h := heap_alloc_new (w.alloc o) (.cells cs t)
  rw [World.size_alloc] at h
  exact World.news_of_block h
theorem path_nil (w : World) (S : Nat → Prop) (c : VC) : PathR w S [] ⟨none, 0, 0, c⟩ := by
  show VR w S (.arr []) ⟨5, 0, ByteArray.empty, none, 0, 0, none, 0, 0, none, 0, 0⟩
  rw [VR]
  exact ⟨⟨rfl, rfl, rfl, rfl, rfl, rfl, Nat.le_refl _, Nat.le_refl _, Nat.le_refl _, fun _ => rfl, fun _ => rfl, fun _ => rfl⟩, fun i h => absurd h (by simp [J.list]), fun i h => absurd h (by simp [J.ents]), fun i h => absurd h (by simp [J.ents])⟩

set_option maxRecDepth 100000 in
theorem Ways_any {S : Nat → Prop} {j : J} (c : VC) {w : World} (hj : JOK j) (hv : VR w S j c) (h4 : j.n ≤ 400) (hS : ∀ b, S b → b < w.heap.size) : Calls Tryz.prog 6 #[c.val] w (WaysPost S j w) := by
  obtain ⟨i0, hi, hz0, hz1, hz2⟩ := info_parts info_values
  have I0 := Lib.hid hi; have I1 := Lib.hid hz0; have I2 := Lib.hid hz1; have I3 := Lib.hid hz2
  obtain ⟨W1, hW1⟩ : ∃ W1, W1 = w.alloc (.cells c.arr 26) := ⟨_, rfl⟩
  have hb : Below w.heap.size w W1 := by rw [hW1]; exact (Below.refl _ _).alloc (Nat.le_refl _) _
  have hs1 : W1.heap.size = w.heap.size + 1 := by rw [hW1]; simp
  have bx : Box W1 w.heap.size c := by rw [hW1]; exact box_alloc w c
  have hv1 : VR W1 S j c := hv.go (fun b h => hb.block b (hS b h)) (fun _ h => h)
  have SPOTS := Lib.hid (spots_any _ S [] j ⟨none, 0, 0, c⟩ W1 (Nat.le_refl _) hj (path_nil _ _ _) hv1 (by simpa using h4) (fun b h => by have := hS b h; omega))
  have HB := Lib.hid hb; have HS := Lib.hid hS
  have b0 := bx.c0; have b1 := bx.c1; have b2 := bx.c2; have b3 := bx.c3; have b4 := bx.c4; have b5 := bx.c5
  have hn : (waysJ j).length ≤ 400 := by rw [waysJ_len _ j (Nat.le_refl _)]; exact h4
  clear hb bx hS hv hj hv1 hi hz0 hz1 hz2
  obtain ⟨k0, h0, s0, la, ll, lc, ka, kl, kc, va, vl, vc⟩ := c
  simp only at b0 b1 b2 b3 b4 b5
  unfold SC.val SC.arr at SPOTS
  unfold VC.val VC.arr at *
  go_enter Tryz.func6, Tryz.ntmps6
  go_wp2_with fail
  rw [← hW1]
  refine SPOTS.out.mono ?_
  rintro e w2 ⟨a, m0, q, ws, lo1, rfl, hlo1, hrow, hb2⟩
  obtain ⟨a', c', e9⟩ := hrow.form
  cases e9
  have hwl : ws.length = (waysJ j).length := by simpa using hrow.2.1
  have WL := Lib.hid hwl
  have hw4 : ws.length ≤ 400 := by omega
  have WROW := Lib.hid hrow; have HB2 := Lib.hid hb2
  have hs2 := hb2.size
  clear hrow hb2 hwl b0 b1 b2 b3 b4 b5 hW1 SPOTS hn
  go_wp2_with fail
  go_loopw [3, 10] (fun u i wr => ∃ m : Nat, i = .int .i64 m ∧ m ≤ ws.length ∧ ∃ a q, u = .slice a m q ∧ wr.ownsRow w2.heap.size 23 1 u m ((ws.take m).map SC.path) ∧ Below w2.heap.size w2 wr) (fun _ i _ => ws.length - (intOf i).toNat)
  case atStart => exact ⟨0, rfl, Nat.zero_le _, none, 0, rfl, World.ownsRow_nil _ _ _ _, Below.refl _ _⟩
  case round =>
    obtain ⟨m, rfl, hm, a5, q5, rfl, hown5, hbw⟩ := hrel
    have OW5 := Lib.hid hown5; have BW := Lib.hid hbw
    clear hown5 hbw
    by_cases hlt : m < ws.length
    · obtain ⟨gW, cap, e8, hgl, hgs⟩ := WROW.out.1.form (by omega)
      cases e8
      have hblk := BW.out.block gW hgs
      obtain ⟨f0, f1, f2, f3, f4, f5, f6⟩ := spot_at WROW.out.1 (g := gW) rfl hlt
      have g0 := (World.cell?_of_block (a := ⟨gW, m * 7, none⟩) hblk).trans f0
      have g1 := (World.cell?_of_block (a := ⟨gW, m * 7 + 1, none⟩) hblk).trans f1
      have g2 := (World.cell?_of_block (a := ⟨gW, m * 7 + 2, none⟩) hblk).trans f2
      have g3 := (World.cell?_of_block (a := ⟨gW, m * 7 + 3, none⟩) hblk).trans f3
      have g4 := (World.cell?_of_block (a := ⟨gW, m * 7 + 4, none⟩) hblk).trans f4
      have g5 := (World.cell?_of_block (a := ⟨gW, m * 7 + 5, none⟩) hblk).trans f5
      have g6 := (World.cell?_of_block (a := ⟨gW, m * 7 + 6, none⟩) hblk).trans f6
      have TK := Lib.hid (show (ws.take (m + 1)).map SC.path = (ws.take m).map SC.path ++ [ws[m].path] from by rw [List.take_add_one, List.getElem?_eq_getElem hlt, Option.toList_some, List.map_append]; rfl)
      generalize ws[m] = x at TK g0 g1 g2 g3 g4 g5 g6
      have hsw := BW.out.size
      clear hblk f0 f1 f2 f3 f4 f5 f6
      obtain ⟨pa9, pn9, pc9, ⟨k9, h9, s9, la9, ll9, lc9, ka9, kl9, kc9, va9, vl9, vc9⟩⟩ := x
      simp only at g0 g1 g2 g3 g4 g5 g6
      go_wp2_with (at_builtin; refine wpList_append_lies _ rfl _ _ 30 rfl w2.heap.size 23 i0 (.slice none 0 0) 1 24 Tryz.underlying30 I0.out I1.out I2.out I3.out rfl (by omega) (.slice a5 m q5) m _ rfl ((OW5.out.alloc _).alloc _) ⟨wr.heap.size + 1, 0, none⟩ 1 1 #[Value.slice pa9 pn9 pc9].toList rfl rfl (news_arr wr _ _ _) (by simp [Value.oneCell']) (by omega) (by unfold maxLen; omega) (by omega) (by simp; omega) (wr.heap.size + 2) (by simp) ?_; intro g cp w3 hown3 hgrow hat hlt3; have OW := Lib.hid hown3; have GW := Lib.hid hgrow; clear hown3 hgrow hat)
      go_roundw
      case rel =>
        refine ⟨m + 1, by go_num, by omega, some ⟨g, 0, none⟩, cp, rfl, by rw [TK.out]; exact OW.out, ?_⟩
        have hb1 : Below wr.heap.size wr ((wr.alloc (.cells (SC.arr ⟨pa9, pn9, pc9, ⟨k9, h9, s9, la9, ll9, lc9, ka9, kl9, kc9, va9, vl9, vc9⟩⟩) 45)).alloc (.cells #[Value.slice pa9 pn9 pc9] 23)) := ((Below.refl _ _).alloc (Nat.le_refl _) _).alloc (by simp) _
        exact (BW.out.trans (hb1.mono hsw)).grown GW.out (by simp; omega) (fun k hk => (OW5.out.lt k hk).1)
      case measure => simp [intOf]; omega
    · obtain rfl : m = ws.length := by omega
      go_wp2_with fail
      go_ret
      have hlow : Below w.heap.size w w2 := HB.out.trans (HB2.out.mono (by omega))
      have hsw := BW.out.size
      refine ⟨a5, ws.length, q5, ws, w2.heap.size, rfl, WL.out, hlow.size, rfl, by have := OW5.out; rw [List.take_length] at this; exact this, fun i hi hx => ?_, hlow.trans (BW.out.mono hlow.size)⟩
      have h1 := WROW.out.2.2.1 i (by simpa using hi) hx
      simp only [List.nil_append, List.map_id'] at h1
      refine h1.go (fun b hb => BW.out.block b ?_) (fun b hb => ?_)
      · rcases hb with h | h
        · have := HS.out b h; omega
        · exact h.1.2
      · rcases hb with h | h
        · exact Or.inl h
        · exact Or.inr ⟨by have := h.1.1; omega, by have := h.1.2; omega⟩
end Go.Proofs.YtnaijgdffbfapaaGreatDoor

namespace Go.Proofs.YtnaijgdffbfapaaGreatDoor
open Go.RowKit

/-- The last two operations are stores of whole rows. -/
theorem wpAny_stores2 {P : Program} {ops : Array Oper} {Q : Exit → Act → World → Prop} {listed : Array Bool} {a : Act} {w : World} (i j : Nat) (oi oj : Oper) (hi : ops[i]? = some oi) (hj : ops[j]? = some oj)
    (r1 : Region.ready .any ops listed = [i]) (r2 : Region.ready .any ops (listed.setIfInBounds i true) = [j]) (r3 : Region.ready .any ops ((listed.setIfInBounds i true).setIfInBounds j true) = [])
    (gi : oi.guard = none) (gj : oj.guard = none) (di : oi.dst = none) (dj : oj.dst = none) (ty : TypeId) (x1 y1 x2 y2 : Tmp) (hoi : oi.op = .store ty (.tmp x1) (.tmp y1)) (hoj : oj.op = .store ty (.tmp x2) (.tmp y2))
    (N1 N2 : Nat) (c1 c2 o1 o2 : Array Value) (e1 : a.eval (.tmp x1) = .pointer (some ⟨N1, 0, none⟩)) (f1 : a.eval (.tmp y1) = .agg c1) (e2 : a.eval (.tmp x2) = .pointer (some ⟨N2, 0, none⟩)) (f2 : a.eval (.tmp y2) = .agg c2)
    (h1 : w.heap[N1]? = some (.cells o1 ty (0, 0))) (h2 : (w.setRow N1 c1).heap[N2]? = some (.cells o2 ty (0, 0))) (s1 : (P.info? ty).map (·.size) = some c1.size) (s2 : (P.info? ty).map (·.size) = some c2.size) (z1 : o1.size = c1.size) (z2 : o2.size = c2.size)
    (k1 : c1.all (·.oneCell') = true) (k2 : c2.all (·.oneCell') = true) (hq : Q .normal a ((w.setRow N1 c1).setRow N2 c2)) : ∀ fuel, 2 ≤ fuel → wpAny P .any ops Q fuel listed a w :=
  wpAny_two i j oi oj hi hj r1 r2 r3 gi gj (fun K hK => wp_store_row ty _ _ hoi N1 c1 e1 f1 ty o1 h1 s1 z1 k1 (by rw [di]; exact hK)) (fun K hK => wp_store_row ty _ _ hoj N2 c2 e2 f2 ty o2 h2 s2 z2 k2 (by rw [dj]; exact hK)) hq

/-- A region that draws its order, its operations guarded by tests that are known, by a list of what its first operations are good for; the others wait for all of these. -/
theorem planKG {P : Program} {id : Nat} {ops : Array Oper} {Q : Exit → Act → World → Prop} {a : Act} {w : World} (nn m : Nat) (news : List (Nat × Tmp)) (olds : List (Tmp × Value)) (L : List KnE) (gl : List (Nat × Bool)) (hm : P.follows .mixedOrders = true)
    (hplan : planGB ops nn m news (olds.map (·.1)) = true) (hsize : a.tmps.size = m) (holds : ∀ p ∈ olds, a.eval (.tmp p.1) = p.2) (hgl : (ops.toList.all fun o => match o.guard with | none => true | some p => gl.contains p) = true)
    (hgv : ∀ p ∈ gl, L[p.1]? = some (.v (.bool p.2)) ∧ ∃ t, (p.1, t) ∈ news) (heat : eatB L = true) (hLn : L.length ≤ nn)
    (hMlt : ∀ k ∈ L, ∀ b, k.old = some b → b < w.heap.size)
    (hlast : ((List.range nn).all fun i => decide (i < L.length) || (List.range nn).all fun j => !decide (j < L.length) || reachB ops nn i j) = true)
    (steps : ∀ i o, ops[i]? = some o → i < L.length → StepOKE P news olds (knE L) w i o)
    (fin : ∀ u S w', PlanE (knE L) w (fun k => decide (k < L.length) || decide (nn ≤ k)) u S w' → Reads news olds u (frameOf ops a u) → ∀ fuel listed, listed.size = nn → (∀ k, k < nn → listed.getD k true = decide (k < L.length)) → unlisted listed.toList ≤ fuel → wpAny P .any ops Q fuel listed (frameOf ops a u) w') : (Code.region id ops true).wp P Q a w :=
  planE_core nn m news olds (knE L) (fun k => decide (k < L.length)) hm hplan hsize holds (knE_st L) (knE_M heat)
    (fun i e φ b hi => by
      rcases knE_some hi with ⟨k, hk, hM, _, _⟩ | ⟨_, hM, _, _⟩
      · exact hMlt k (List.mem_of_getElem? hk) b hM.symm
      · cases hM)
    (knE_E heat) (knE_E1 heat) hlast
    (fun i o g want ho _ hg => by
      have h1 := (List.all_eq_true.1 hgl) o (by simpa using Array.mem_of_getElem? ho)
      rw [hg] at h1
      simp only [List.contains_iff_mem] at h1
      obtain ⟨h2, h3⟩ := hgv _ h1
      refine ⟨by rw [knE_at h2]; rfl, fun k M φ hk => ?_, h3⟩
      obtain ⟨_, e, ψ, h4⟩ := knE_E heat k g M φ hk
      simp only [eatB, Bool.and_eq_true, decide_eq_true_eq] at heat
      rcases knE_some hk with ⟨q, hq, _, he, _⟩ | ⟨_, _, he, _⟩
      · have h5 := (List.all_eq_true.1 heat.1.2) q (List.mem_of_getElem? hq)
        rw [← he] at h5
        simp only [h2] at h5
        cases h5
      · cases he)
    (fun i j b s s' hi _ => absurd hi knE_put)
    (fun i hi => by
      rcases hi with h | h
      · exact knE_rest L i (by omega)
      · exact knE_rest L i (by simpa using h))
    (fun i o ho hT => steps i o ho (by simpa using hT)) fin

/-- A Value that reads as j, in new blocks S and in those that lay there. -/
def ReadIs (w0 : World) (j : J) : Value → (Nat → Prop) → World → Prop := fun v S w => ∃ x, v = VC.val x ∧ ∀ w', Same S w w' → Below w0.heap.size w0 w' → VR w' (fun b => b < w0.heap.size ∨ S b) j x
theorem readIs_st {w0 : World} {j : J} : ∀ v S w w', ReadIs w0 j v S w → Same S w w' → ReadIs w0 j v S w' := fun _ _ _ _ ⟨x, e, h⟩ hs => ⟨x, e, fun w2 h1 h2 => h w2 (fun b hb => (h1 b hb).trans (hs b hb)) h2⟩

/-- A Value that reads as j in what lay there. -/
def OldIs (w0 : World) (j : J) : Value → (Nat → Prop) → World → Prop := fun v _ _ => ∃ x, v = VC.val x ∧ VR w0 (· < w0.heap.size) j x
theorem oldIs_st {w0 : World} {j : J} : ∀ v S w w', OldIs w0 j v S w → Same S w w' → OldIs w0 j v S w' := fun _ _ _ _ h _ => h

theorem cellsOf_take : ∀ (xs : List VC) (n : Nat), (cellsOf xs).take (n * 6) = cellsOf (xs.take n)
  | _, 0 => by simp [cellsOf]
  | [], n + 1 => by simp [cellsOf]
  | c :: xs, n + 1 => by
    have h := cellsOf_take xs n
    simp only [cellsOf, List.flatMap_cons, List.take_succ_cons] at h ⊢
    rw [← h, List.take_append, arr_len, List.take_of_length_le (by rw [arr_len]; omega), show (n + 1) * 6 - 6 = n * 6 by omega]
theorem cellsOf_drop : ∀ (xs : List VC) (n : Nat), (cellsOf xs).drop (n * 6) = cellsOf (xs.drop n)
  | _, 0 => by simp
  | [], n + 1 => by simp [cellsOf]
  | c :: xs, n + 1 => by
    have h := cellsOf_drop xs n
    simp only [cellsOf, List.flatMap_cons, List.drop_succ_cons] at h ⊢
    rw [← h, List.drop_append, arr_len, List.drop_of_length_le (by rw [arr_len]; omega), show (n + 1) * 6 - 6 = n * 6 by omega, List.nil_append]

theorem run_zeroVC (w : World) : (zeroValue 26).run Tryz.prog w = .ok zeroVC w := by kernel_rfl
theorem build_zero (w : World) : (Instr.buildSlice 23 0 #[]).run Tryz.prog w = .ok (.slice (some ⟨w.heap.size, 0, none⟩) 0 0) (w.alloc (.cells #[] 26)) := by kernel_rfl
theorem fieldVal2 (b o : Nat) (w : World) : (Instr.fieldAt 26 (.pointer (some ⟨b, o, none⟩)) 2).run Tryz.prog w = .ok (.pointer (some ⟨b, o + 2, none⟩)) w := by go_simp
theorem load_string (b o : Nat) (v : Value) (w : World) (h : w.cell? ⟨b, o, none⟩ = some v) : (Instr.loadAt 9 (.pointer (some ⟨b, o, none⟩))).run Tryz.prog w = .ok v w := by go_simp

section
variable {news : List (Nat × Tmp)} {olds : List (Tmp × Value)} {L : List KnE} {w0 : World} {i : Nat} {o : Oper}

theorem kn_run0 {v : Value} (heat : eatB L = true) (hL : L[i]? = some (.v v)) (hrun : ∀ (b : Act) (w : World), (execOp b.eval o).run Tryz.prog w = .ok (.value v) w) : StepOKE Tryz.prog news olds (knE L) w0 i o :=
  step_kn [] heat hL (fun p hp => by cases hp) fun b w _ _ _ => hrun b w
theorem kn_run1 {v X : Value} (j : Nat) (x : Tmp) (heat : eatB L = true) (hL : L[i]? = some (.v v)) (hx : (j, x) ∈ news) (hj : L[j]? = some (.v X)) (hw : waitsB o j = true)
    (hrun : ∀ (b : Act) (w : World), b.eval (.tmp x) = X → (execOp b.eval o).run Tryz.prog w = .ok (.value v) w) : StepOKE Tryz.prog news olds (knE L) w0 i o :=
  step_kn [(j, x, X)] heat hL (uses1 hx hj hw) fun b w e _ _ => hrun b w (e _ List.mem_cons_self)
theorem kn_run2 {v X Y : Value} (j k : Nat) (x y : Tmp) (heat : eatB L = true) (hL : L[i]? = some (.v v)) (hx : (j, x) ∈ news) (hj : L[j]? = some (.v X)) (hw : waitsB o j = true) (hy : (k, y) ∈ news) (hk : L[k]? = some (.v Y)) (hwy : waitsB o k = true)
    (hrun : ∀ (b : Act) (w : World), b.eval (.tmp x) = X → b.eval (.tmp y) = Y → (execOp b.eval o).run Tryz.prog w = .ok (.value v) w) : StepOKE Tryz.prog news olds (knE L) w0 i o :=
  step_kn [(j, x, X), (k, y, Y)] heat hL (uses2 hx hj hw hy hk hwy) fun b w e _ _ => hrun b w (e _ List.mem_cons_self) (e _ (List.mem_cons_of_mem _ List.mem_cons_self))

theorem kn_field1 {N off off' : Nat} (t : TypeId) (f : Nat) (j : Nat) (x : Tmp) (heat : eatB L = true) (hL : L[i]? = some (.v (.pointer (some ⟨N, off', none⟩)))) (ho : o.op = .fieldAddr t (.tmp x) f) (hx : (j, x) ∈ news) (hj : L[j]? = some (.v (.pointer (some ⟨N, off, none⟩)))) (hw : waitsB o j = true)
    (hrun : ∀ w, (Instr.fieldAt t (.pointer (some ⟨N, off, none⟩)) f).run Tryz.prog w = .ok (.pointer (some ⟨N, off', none⟩)) w) : StepOKE Tryz.prog news olds (knE L) w0 i o :=
  kn_run1 j x heat hL hx hj hw fun b w e => by unfold execOp; simp only [ho, e, Sem.run_bind, hrun, Sem.run_pure, Result.andThen_ok]
theorem kn_move1 {v : Value} (j : Nat) (x : Tmp) (heat : eatB L = true) (hL : L[i]? = some (.v v)) (ho : o.op = .move (.tmp x)) (hx : (j, x) ∈ news) (hj : L[j]? = some (.v v)) (hw : waitsB o j = true) : StepOKE Tryz.prog news olds (knE L) w0 i o :=
  kn_run1 j x heat hL hx hj hw fun b w e => by unfold execOp; simp only [ho, e]; rfl
theorem kn_assign1 {v : Value} (j : Nat) (x : Tmp) (heat : eatB L = true) (hL : L[i]? = some (.v v)) (ho : o.op = .assign (.tmp x)) (hx : (j, x) ∈ news) (hj : L[j]? = some (.v v)) (hw : waitsB o j = true) : StepOKE Tryz.prog news olds (knE L) w0 i o :=
  kn_run1 j x heat hL hx hj hw fun b w e => by unfold execOp; simp only [ho, e]; rfl
theorem kn_not {c : Bool} (t : TypeId) (j : Nat) (x : Tmp) (heat : eatB L = true) (hL : L[i]? = some (.v (.bool (!c)))) (ho : o.op = .unOp .not t (.tmp x)) (hx : (j, x) ∈ news) (hj : L[j]? = some (.v (.bool c))) (hw : waitsB o j = true) : StepOKE Tryz.prog news olds (knE L) w0 i o :=
  kn_run1 j x heat hL hx hj hw fun b w e => by unfold execOp; simp only [ho, e]; rfl
/-- '&&': the test ahead was true. -/
theorem kn_and {c : Bool} (j k : Nat) (x y : Tmp) (heat : eatB L = true) (hL : L[i]? = some (.v (.bool c))) (ho : o.op = .pick (.tmp x) (.tmp y) (.const (.bool false))) (hx : (j, x) ∈ news) (hj : L[j]? = some (.v (.bool true))) (hw : waitsB o j = true) (hy : (k, y) ∈ news) (hk : L[k]? = some (.v (.bool c))) (hwy : waitsB o k = true) : StepOKE Tryz.prog news olds (knE L) w0 i o :=
  kn_run2 j k x y heat hL hx hj hw hy hk hwy fun b w e e2 => by unfold execOp; simp only [ho, e, e2]; rfl
theorem kn_eqlN {a c : Int} {e : Bool} (j k : Nat) (x y : Tmp) (he : decide (a = c) = e) (heat : eatB L = true) (hL : L[i]? = some (.v (.bool e))) (ho : o.op = .binOp .eql 3 (.tmp x) (.tmp y) 3) (hx : (j, x) ∈ news) (hj : L[j]? = some (.v (.int .i64 a))) (hw : waitsB o j = true) (hy : (k, y) ∈ news) (hk : L[k]? = some (.v (.int .i64 c))) (hwy : waitsB o k = true) : StepOKE Tryz.prog news olds (knE L) w0 i o :=
  kn_run2 j k x y heat hL hx hj hw hy hk hwy fun b w e1 e2 => by
    unfold execOp
    simp only [ho, e1, e2]
    rw [← he]
    by_cases h : a = c
    · subst h; go_simp
    · go_simp
theorem kn_add1 {n : Nat} (hlt : n ≤ 1000000) (j : Nat) (x : Tmp) (heat : eatB L = true) (hL : L[i]? = some (.v (.int .i64 ((n + 1 : Nat) : Int)))) (ho : o.op = .binOp .add 3 (.tmp x) (.const (.int .i64 1)) 3) (hx : (j, x) ∈ news) (hj : L[j]? = some (.v (.int .i64 (n : Int)))) (hw : waitsB o j = true) : StepOKE Tryz.prog news olds (knE L) w0 i o :=
  kn_run1 j x heat hL hx hj hw fun b w e1 => by
    have hc : ((n + 1 : Nat) : Int) = (n : Int) + 1 := by omega
    unfold execOp
    rw [hc]
    simp only [ho, e1]
    go_simp
    refine IntWalk.i64_in _ ?_
    omega

/-- A slice of no element. -/
theorem kn_build0 {base size : Nat} {t : TypeId} (T : TypeId) (hL : L[i]? = some (.row none base t size 0 [])) (ho : o.op = .buildSlice T 0 #[]) (hbase : base ≤ w0.heap.size)
    (hrun : ∀ w, (Instr.buildSlice T 0 #[]).run Tryz.prog w = .ok (.slice (some ⟨w.heap.size, 0, none⟩) 0 0) (w.alloc (.cells #[] t))) : StepOKE Tryz.prog news olds (knE L) w0 i o := by
  unfold StepOKE
  rw [knE_at hL]
  refine ⟨(fun j hj => by cases hj), ?_⟩
  intro Q d u S w b K hp hdi hR hd he hK
  refine wp_of_run (w' := w.alloc (.cells #[] t)) (.slice (some ⟨w.heap.size, 0, none⟩) 0 0) (by unfold execOp; simp only [ho, List.map_toArray, List.map_nil, Sem.run_bind, hrun w, Sem.run_pure, Result.andThen_ok]) (hK.out _ (fun b => b = w.heap.size) _ none (World.grownBy_alloc _ _ _) (fun b h => by cases h) ⟨?_, fun g hg => ?_⟩ (fun b h => ?_))
  · exact ⟨by simp, Or.inr ⟨w.heap.size, 0, #[], rfl, Nat.le_trans hbase hp.size, heap_alloc_new _ _, Nat.le_refl _, Nat.zero_le _, by simp, by simp⟩⟩
  · cases hg; rfl
  · subst h
    exact ⟨Or.inl (Nat.le_refl _), by simp⟩

/-- A call of known arguments and of one that another operation has made. -/
theorem kn_callM {k ky : KnE} {e1 : Option Nat} {φ ψ : Value → (Nat → Prop) → World → Prop} (f : FuncId) (xs : Array Operand) (ts : Array TypeId) (mk : Value → Array Value) (uses : List (Nat × Tmp × Value)) (jy : Nat) (y : Tmp) (hf : Enters Tryz.prog f) (heat : eatB L = true) (hno : (L.all fun k => k.old.isNone) = true) (hL : L[i]? = some k) (hk : k.item = .val none none φ)
    (ho : o.op = .call { callee := .value (.func f), args := xs, argTypes := ts }) (hu : Uses news L o uses) (hy : (jy, y) ∈ news) (hjy : L[jy]? = some ky) (hky : ky.item = .val none e1 ψ) (hwy : waitsB o jy = true) (hne : (L.all fun k => k.eats != some jy) = true)
    (hvs : ∀ (b : Act) (vy : Value), (∀ p ∈ uses, b.eval (.tmp p.2.1) = p.2.2) → b.eval (.tmp y) = vy → xs.map b.eval = mk vy)
    (hc : ∀ w vy Sy, Below w0.heap.size w0 w → ψ vy Sy w → (∀ b, Sy b → w0.heap.size ≤ b ∧ b < w.heap.size) → Calls Tryz.prog f (mk vy) w fun e w' => ∃ v S', e = .returned v ∧ φ v S' w' ∧ (∀ b, S' b → w.heap.size ≤ b ∧ b < w'.heap.size) ∧ Below w.heap.size w w') : StepOKE Tryz.prog news olds (knE L) w0 i o := by
  unfold StepOKE
  rw [knE_at hL, hk]
  refine ⟨(fun j hj => by cases hj), ?_⟩
  intro Q d u S w b K hp hdi hR hd he hK
  obtain ⟨e2, h4, h5, h6⟩ := waits_of hwy
  obtain ⟨hψ, hSy⟩ := hp.val jy none e1 ψ (by rw [knE_at hjy, hky]) (by rw [← h6]; exact hd e2 h4 h5) (live_of hne)
  have ey := hR.1 _ hy
  simp only at ey
  refine wp_call_fn f _ ts (mk (u jy)) hf ho (hvs b (u jy) (hu.eval heat hp hR hd) ey) ((hc w (u jy) (S jy) (planE_low hp hno) hψ (fun b hb => ⟨(hSy b hb).1.elim (fun h => h) (fun h => by cases h), (hSy b hb).2⟩)).mono ?_)
  rintro e w' ⟨v, S', rfl, hφ, hS, hb⟩
  exact ⟨_, rfl, hK.out _ S' w' none (grown_of_below0 hb _) (fun b h => by cases h) hφ (fun g hg => ⟨Or.inl (hS g hg).1, (hS g hg).2⟩)⟩

/-- An array over a row that another operation has made. -/
theorem kn_larr {base n : Nat} {e' : Option Nat} {xs : List Value} (js : Nat) (s : Tmp) (ts : Array TypeId) (hf : Enters Tryz.prog 8) (hL : L[i]? = some (.arr js base n xs)) (ho : o.op = .call { callee := .value (.func 8), args := #[.tmp s], argTypes := ts })
    (hs : (js, s) ∈ news) (hjs : L[js]? = some (.row e' base 26 6 n xs)) (hws : waitsB o js = true) : StepOKE Tryz.prog news olds (knE L) w0 i o := by
  unfold StepOKE
  rw [knE_at hL]
  refine ⟨fun j hj d hd => ?_, ?_⟩
  · cases hj
    obtain ⟨e1, h4, h5, h6⟩ := waits_of hws
    rw [← h6]; exact hd e1 h4 h5
  intro Q d u S w b K hp hdi hR hd he hK
  obtain ⟨hdj, hlj⟩ := he js rfl
  obtain ⟨⟨hown, hSg⟩, _⟩ := hp.val js none e' (RowIs base 26 6 n xs) (by rw [knE_at hjs]; rfl) hdj hlj
  obtain ⟨p, q, hv⟩ := row_form hown
  have es := (hR.1 _ hs).trans hv
  rw [hv] at hown hSg
  refine wp_call_fn 8 _ ts #[.slice p n q] hf ho (by simp only [List.map_toArray, List.map_cons, List.map_nil, es]) ((larray_any p n q w).mono ?_)
  rintro e w' ⟨rfl, hb⟩
  refine ⟨_, rfl, hK.out _ (fun g => (Value.slice p n q).ownBlock = some g) w' (Value.slice p n q).ownBlock (grown_of_below0 hb _) (fun b h => Or.inr ⟨js, rfl, hSg b h⟩) ⟨p, q, rfl, row_below hown hb, fun g hg => hg⟩ (fun g hg => ⟨Or.inr hg, Nat.lt_of_lt_of_le (hown.lt g hg).2 hb.size⟩)⟩
end

/-- As knIt, its boxes those of Values. -/
def boxV : Item → Item | .box _ _ => .box 26 6 | .val M φ => .val M φ | .put b s => .put b s
def knV (L : List Kn) : Nat → Item := fun i => boxV (knIt L i)
theorem knV_val {L : List Kn} {i : Nat} {M : Option Nat} {φ : Value → (Nat → Prop) → World → Prop} (h : knV L i = .val M φ) : knIt L i = .val M φ := by
  unfold knV at h
  cases e : knIt L i with
  | val M φ => rw [e] at h; exact h
  | box t n => rw [e] at h; cases h
  | put b s => rw [e] at h; cases h
theorem knV_put {L : List Kn} {i b s : Nat} (h : knV L i = .put b s) : knIt L i = .put b s := by
  unfold knV at h
  cases e : knIt L i with
  | val M φ => rw [e] at h; cases h
  | box t n => rw [e] at h; cases h
  | put b s => rw [e] at h; exact h
theorem knV_st (L : List Kn) : ∀ i M φ, knV L i = .val M φ → ∀ v S w w', φ v S w → Same S w w' → φ v S w' := fun i M φ h => knIt_st L i M φ (knV_val h)
theorem knV_none (L : List Kn) : ∀ i M φ, knV L i = .val M φ → M = none := fun i M φ h => knIt_none L i M φ (knV_val h)
theorem knV_rest (L : List Kn) (n : Nat) (h : L.length = n) : ∀ i, n ≤ i → knV L i = .val none fun _ _ _ => True := fun i hi => by unfold knV; rw [knIt_rest L n h i hi]; rfl
theorem knV_one (L : List Kn) (h : onceB (L.map Kn.toB) = true) : ∀ i j b s s', knV L i = .put b s → knV L j = .put b s' → i = j := fun i j b s s' h1 h2 => knIt_one L h i j b s s' (knV_put h1) (knV_put h2)
section
variable {news : List (Nat × Tmp)} {olds : List (Tmp × Value)} {it : Nat → Item} {w0 : World} {i : Nat} {o : Oper}
theorem step_boxV (hit : it i = .box 26 6) (ho : o.op = .alloc 26) : StepOK Tryz.prog news olds it w0 i o := by
  unfold StepOK
  rw [hit]
  exact ⟨zeroVC, rfl, ho, run_zeroVC⟩
theorem step_putV {c : VC} (b s : Nat) (x y : Tmp) (hit : it i = .put b s) (hb : it b = .box 26 6) (hs : it s = .val none (isV (VC.val c))) (ho : o.op = .store 26 (.tmp x) (.tmp y)) (hx : (b, x) ∈ news) (hy : (s, y) ∈ news) (hwb : waitsB o b = true) (hws : waitsB o s = true) (hd : o.dst = none) :
    StepOK Tryz.prog news olds it w0 i o := by
  unfold StepOK
  rw [hit]
  exact ⟨⟨_, _, none, _, hb, hs, fun v S w hv => by rw [hv]; exact ⟨c.arr, rfl, rfl, arr_one c⟩⟩, waits_of hwb, waits_of hws, 26, x, y, ho, hx, hy, (fun t n h => by rw [hb] at h; cases h; exact info_value6), hd⟩
end
theorem plan_valV {it : Nat → Item} {w0 : World} {u : Nat → Value} {S : Nat → Nat → Prop} {w : World} (hp : Plan it w0 (fun _ => true) u S w) {i b s : Nat} {c : VC} (hi : it i = .put b s) (hb : it b = .box 26 6) (hs : it s = .val none (isV (VC.val c))) :
    ∃ N, u b = .pointer (some ⟨N, 0, none⟩) ∧ w0.heap.size ≤ N ∧ Box w N c := by
  obtain ⟨_, _, N, cs, t, h1, h2, _, h3⟩ := hp.put i b s hi rfl
  obtain ⟨N', cs', h4, h5, h6, h7⟩ := hp.box b _ _ hb rfl
  rw [h1] at h4; cases h4
  have h8 : u s = VC.val c := (hp.val s _ _ hs rfl).1
  rw [h2] at h8
  unfold VC.val at h8
  cases h8
  rw [h3] at h6
  cases h6
  exact ⟨N, h1, h5, h3⟩
end Go.Proofs.YtnaijgdffbfapaaGreatDoor
