/- A part of the proof. -/
import Derived.Test.YtfgmegfgifeaiaaGreatDoorZWithJ
import Derived.Test.YtfgmegfgifeaiaaGreatDoorZPlace
import Derived.LoopTactic
import Derived.Deep.DeepCutAuto
import Derived.Deep.CutBlock
namespace Go.Proofs.YtfgmegfgifeaiaaGreatDoor
open Go.RowKit

set_option maxRecDepth 100000 in
set_option maxHeartbeats 4000000 in
theorem With_any {S : Nat → Prop} (m : List (ByteArray × J)) (c d : VC) (key : ByteArray) (v : J) {w : World} (hl : m.length ≤ 400) (hr : Rises m) (hV : VR w S (.obj m) c) (hd : VR w S v d) (hS : ∀ b, S b → b < w.heap.size) :
    Calls Tryz.prog 78 #[c.val, .string key, d.val] w fun e w' => ∃ x, e = .returned x.val ∧ VR w' (fun b => S b ∨ New w.heap.size w' b) (.obj (withJ m key v)) x ∧ Below w.heap.size w w' := by
  obtain ⟨i0, hi, hz0, hz1, hz2⟩ := info_parts info_value
  obtain ⟨j0, gi, gz0, gz1, gz2⟩ := info_parts info_string
  obtain ⟨xs, hxl, hxv, hLK, hLV, hSk, hSv⟩ := vr_obj hV
  have hh := hV.head
  have hkl : c.kl = m.length := hh.kl
  have hvl : c.vl = m.length := hh.vl
  have hkc := hh.kc; have hvc := hh.vc; have hkn := hh.kn; have hvn := hh.vn
  obtain ⟨WA, hWA⟩ : ∃ WA, WA = ((w.alloc (.cells c.arr 26)).alloc (.cells d.arr 26)).alloc (.cells VC.nil.arr 26) := ⟨_, rfl⟩
  have hA0 : Below w.heap.size w WA := by rw [hWA]; exact (((Below.refl _ _).alloc (Nat.le_refl _) _).alloc (by simp) _).alloc (by simp; omega) _
  have hA1 : Box WA w.heap.size c := by rw [hWA]; exact (box_alloc w c).below (((Below.refl (w.heap.size + 1) _).alloc (by simp) _).alloc (by simp) _) (by omega)
  have hA2 : Box WA (w.heap.size + 1) d := by
    rw [hWA]
    have := box_alloc (w.alloc (.cells c.arr 26)) d
    simp only [World.size_alloc] at this
    exact this.below ((Below.refl (w.heap.size + 2) _).alloc (by simp) _) (by omega)
  have hA3 : Box WA (w.heap.size + 1 + 1) VC.nil := by
    rw [hWA]
    have := box_alloc ((w.alloc (.cells c.arr 26)).alloc (.cells d.arr 26)) VC.nil
    simp only [World.size_alloc] at this
    exact this
  have hAs : WA.heap.size = w.heap.size + 3 := by rw [hWA]; simp
  have P := Lib.hid (place_any (S := S) (m.map fun x : ByteArray × J => x.1) c key (w := WA) (by simpa using hl) (fun b h => by have := hS b h; omega) (by simpa using hkl)
    (fun i hi => by
      have hi' : i < m.length := by simpa using hi
      obtain ⟨b, o, e, hc⟩ := hLK i (.string m[i].1) (by simp [hi'])
      have hb := hSk b o e (List.ne_nil_of_length_pos (by omega))
      exact ⟨b, o, e, hb, by simpa using (World.cell?_of_block (a := ⟨b, o + i, none⟩) (hA0.block b (hS b hb))).trans hc⟩)
    (fun i hi => by have := hr.adj i (by simpa using hi); simpa using this))
  have HA0 := Lib.hid hA0; have HA1 := Lib.hid hA1; have HA2 := Lib.hid hA2; have HA3 := Lib.hid hA3
  have HXV := Lib.hid hxv; have HD := Lib.hid hd; have HS := Lib.hid hS; have HR := Lib.hid hr
  have LIESk := Lib.hid hLK; have LIESv := Lib.hid hLV
  have hmk : m.map (fun p => Value.string p.1) ≠ [] → m ≠ [] := fun h e => h (by rw [e]; rfl)
  have hmv : cellsOf xs ≠ [] → m ≠ [] := fun h e => h (by rw [e] at hxl; rw [List.eq_nil_of_length_eq_zero hxl]; rfl)
  have SBk := Lib.hid fun b o (e : c.ka = some ⟨b, o, none⟩) (hne : m.map (fun p => Value.string p.1) ≠ []) => hS b (hSk b o e (hmk hne))
  have SBv := Lib.hid fun b o (e : c.va = some ⟨b, o, none⟩) (hne : cellsOf xs ≠ []) => hS b (hSv b o e (hmv hne))
  have ONEk := Lib.hid (strings_one m); have ONEv := Lib.hid (cells_one xs)
  have I0 := Lib.hid hi; have I1 := Lib.hid hz0; have I2 := Lib.hid hz1; have I3 := Lib.hid hz2
  have J0 := Lib.hid gi; have J1 := Lib.hid gz0; have J2 := Lib.hid gz1; have J3 := Lib.hid gz2
  have HXL := Lib.hid hxl
  clear hi hz0 hz1 hz2 gi gz0 gz1 gz2 hh hV hA0 hA1 hA2 hA3 hxv hd hS hr hLK hLV hSk hSv hmk hmv
  obtain ⟨k0, h0, s0, la, ll, lc, ka, kl, kc, va, vl, vc⟩ := c
  obtain ⟨k1, h1, s1, la1, ll1, lc1, ka1, kl1, kc1, va1, vl1, vc1⟩ := d
  simp only at hkl hvl hkc hvc hkn hvn LIESk LIESv SBk SBv
  subst hkl
  have LENk : Hid ((m.map fun p => Value.string p.1).length = m.length * 1) := Lib.hid (by simp)
  have LENv : Hid ((cellsOf xs).length = m.length * 6) := Lib.hid (by rw [cellsOf_length, HXL.out])
  subst hvl
  have HCk := Lib.hid hkc; have HCv := Lib.hid hvc; have HZk := Lib.hid hkn; have HZv := Lib.hid hvn
  clear hkc hvc hkn hvn hxl
  unfold VC.val VC.arr VC.nil at *
  go_enter Tryz.func78, Tryz.ntmps78
  go_wp2_with fail
  rw [show ByteArray.mk #[] = ByteArray.empty from rfl, ← hWA]
  refine P.out.mono ?_
  rintro e w1 ⟨n, rfl, hpl, hb1⟩
  have HP := Lib.hid hpl
  have HB1 := Lib.hid hb1
  have hs1 := hb1.size
  clear hpl hb1 P
  generalize hbm : among key (m.map fun x : ByteArray × J => x.1) = bm
  have HBM := Lib.hid hbm
  clear hbm
  have BO := Lib.hid (box_alloc w1 ⟨6, 0, ByteArray.empty, none, 0, 0, none, 0, 0, none, 0, 0⟩)
  unfold VC.arr at BO
  go_upto_region 3 with fail
  obtain ⟨N9, hN9⟩ : ∃ N9, N9 = w1.heap.size := ⟨_, rfl⟩
  rw [← hN9] at BO ⊢
  have hlow1 : Below w.heap.size w w1 := HA0.out.trans (HB1.out.mono HA0.out.size)
  obtain ⟨w2, hw2⟩ : ∃ w2, w2 = w1.alloc (.cells #[.int .i64 6, .int .i64 0, .string ByteArray.empty, .slice none 0 0, .slice none 0 0, .slice none 0 0] 26) := ⟨_, rfl⟩
  rw [show ByteArray.mk #[] = ByteArray.empty from rfl, ← hw2]
  have hlow2 : Below N9 w1 w2 := by rw [hw2, hN9]; exact (Below.refl _ _).alloc (Nat.le_refl _) _
  have WX : Hid (WithAt w ⟨k0, h0, s0, la, ll, lc, ka, m.length, kc, va, m.length, vc⟩ ⟨k1, h1, s1, la1, ll1, lc1, ka1, kl1, kc1, va1, vl1, vc1⟩ N9 none 0 0 none 0 0 [] [] w2) := Lib.hid ⟨hlow1.trans (hlow2.mono (by omega)), (HA1.out.below HB1.out (by omega)).below hlow2 (by omega), (HA2.out.below HB1.out (by omega)).below hlow2 (by omega), (HA3.out.below HB1.out (by omega)).below hlow2 (by omega), (by rw [hw2]; exact BO.out), World.ownsRow_nil _ _ _ _, World.ownsRow_nil _ _ _ _, (fun b h => by cases h), by omega⟩
  have NLk := Lib.hid (show n ≤ m.length by have := HP.out.1; simpa using this)
  have NLv := NLk
  have szw : N9 < w2.heap.size := by rw [hw2, hN9]; simp
  have szN : w.heap.size + 2 < N9 := WX.out.hN
  have hn4 : n ≤ 400 := Nat.le_trans NLk.out hl
  clear hw2 hlow1 hlow2 hWA hAs hs1 hN9
  have LIESkX := Lib.hid (LIESk.out.keep fun b o e h => WX.out.low.block b (SBk.out b o e h))
  go_cut [27] (fun _ wx => ∃ pa pc, WithAt w ⟨k0, h0, s0, la, ll, lc, ka, m.length, kc, va, m.length, vc⟩ ⟨k1, h1, s1, la1, ll1, lc1, ka1, kl1, kc1, va1, vl1, vc1⟩ N9 pa (n + 1) pc none 0 0 ((m.map fun p => Value.string p.1).take (n * 1) ++ #[Value.string key].toList) [] wx)
  case first =>
    rename_i J9 K9 hJ hM
    obtain ⟨L, hL⟩ : ∃ L : List KnE, L = [.v (.pointer (some ⟨N9, 4, none⟩)), .v (.slice none 0 0), .v (.pointer (some ⟨w.heap.size, 4, none⟩)), .v (.slice ka m.length kc), .v (.int .i64 (n : Int)), .v (sliced ka 0 n kc 1), .row none (N9 + 1) 9 1 n ((m.map fun p => Value.string p.1).take (n * 1)), .v (.string key), .one #[.string key] 9, .row (some 6) (N9 + 1) 9 1 (n + 1) (((m.map fun p => Value.string p.1).take (n * 1)) ++ #[.string key].toList), .v (.pointer (some ⟨N9, 4, none⟩))] := ⟨_, rfl⟩
    have FARR : ∀ b, b ≤ N9 → ∀ k ∈ L, k.old ≠ some b := by
      intro b hb k hk
      rw [hL] at hk
      simp only [List.mem_cons, List.not_mem_nil, or_false] at hk
      rcases hk with rfl | rfl | rfl | rfl | rfl | rfl | rfl | rfl | rfl | rfl | rfl
      all_goals first | (intro e; cases e; done) | (intro e; have := (WX.out.keys.lt b e).1; omega)
    subst hL
    refine planK 12 59 [(0, 17), (1, 18), (2, 19), (3, 20), (4, 21), (5, 22), (6, 23), (7, 24), (8, 25), (9, 26), (10, 27)] [(3, (.pointer (some ⟨w.heap.size, 0, none⟩))), (5, (.pointer (some ⟨(w.heap.size + 1), 0, none⟩))), (7, (.int .i64 (n : Int))), (9, (.pointer (some ⟨N9, 0, none⟩))), (1, (.string key))] [.v (.pointer (some ⟨N9, 4, none⟩)), .v (.slice none 0 0), .v (.pointer (some ⟨w.heap.size, 4, none⟩)), .v (.slice ka m.length kc), .v (.int .i64 (n : Int)), .v (sliced ka 0 n kc 1), .row none (N9 + 1) 9 1 n ((m.map fun p => Value.string p.1).take (n * 1)), .v (.string key), .one #[.string key] 9, .row (some 6) (N9 + 1) 9 1 (n + 1) (((m.map fun p => Value.string p.1).take (n * 1)) ++ #[.string key].toList), .v (.pointer (some ⟨N9, 4, none⟩))] (by kernel_rfl) (by kernel_rfl) rfl ?_ (by kernel_rfl) (by rfl) (by simp) ?_ (by kernel_rfl) ?_ ?_
    · intro p hp
      simp only [List.mem_cons, List.not_mem_nil, or_false] at hp
      rcases hp with rfl | rfl | rfl | rfl | rfl <;> rfl
    · intro k hk b hb
      simp only [List.mem_cons, List.not_mem_nil, or_false] at hk
      rcases hk with rfl | rfl | rfl | rfl | rfl | rfl | rfl | rfl | rfl | rfl | rfl
      all_goals first | (cases hb; done) | (exact (WX.out.keys.lt b hb).2)
    · intro i o ho hT
      rcases i with _ | _ | _ | _ | _ | _ | _ | _ | _ | _ | _ | i
      · obtain rfl := Option.some.inj ho
        exact kn_field0 26 4 9 (by rfl) rfl rfl (by simp) (field4 _)
      · obtain rfl := Option.some.inj ho
        exact kn_load (a := ⟨N9, 4, none⟩) 24 0 17 (by rfl) rfl rfl (by simp) rfl (by kernel_rfl) WX.out.out.c4 WX.out.out.lt (FARR N9 (by omega)) (load_strings _ _ _)
      · obtain rfl := Option.some.inj ho
        exact kn_field0 26 4 3 (by rfl) rfl rfl (by simp) (field4 _)
      · obtain rfl := Option.some.inj ho
        exact kn_load (a := ⟨w.heap.size, 4, none⟩) 24 2 19 (by rfl) rfl rfl (by simp) rfl (by kernel_rfl) WX.out.bc.c4 WX.out.bc.lt (FARR w.heap.size (by omega)) (load_strings _ _ _)
      · obtain rfl := Option.some.inj ho
        exact kn_move 7 (by rfl) rfl rfl (by simp)
      · obtain rfl := Option.some.inj ho
        exact kn_head (len := m.length) 24 3 4 20 21 (by rfl) rfl rfl (by simp) rfl (by kernel_rfl) (by simp) rfl (by kernel_rfl) (head_strings _ _ _ _ (Nat.le_trans NLk.out HCk.out))
      · obtain rfl := Option.some.inj ho
        exact kn_app0 (inf := j0) (bytes := 16) 24 1 18 (.tmp 22) (by rfl) rfl rfl (by simp) rfl (by kernel_rfl) (src_lies (cs := (m.map fun p => Value.string p.1)) 5 22 (by rfl) (by simp) rfl (by kernel_rfl) LIESkX.out (fun b o' e hne => ⟨Nat.lt_of_lt_of_le (SBk.out b o' e hne) (by omega), FARR b (by have := SBk.out b o' e hne; omega)⟩) (fun w' h => src_head h LENk.out NLk.out HCk.out HZk.out)) Tryz.underlying24 J0.out J1.out J2.out J3.out rfl (by omega) (one_take ONEk.out) (by unfold maxLen; omega) (by omega) (by omega)
      · obtain rfl := Option.some.inj ho
        exact kn_move 1 (by rfl) rfl rfl (by simp)
      · obtain rfl := Option.some.inj ho
        exact kn_one 24 9 7 24 (by rfl) rfl rfl (by simp) rfl (by kernel_rfl) (build_key key)
      · obtain rfl := Option.some.inj ho
        exact kn_app1 (inf := j0) (bytes := 16) 24 6 23 (.tmp 25) rfl rfl (by simp) rfl (by kernel_rfl) (src_one 8 25 (by rfl) (by simp) rfl (by kernel_rfl) (by intro k hk; simp only [List.mem_cons, List.not_mem_nil, or_false] at hk; rcases hk with rfl | rfl | rfl | rfl | rfl | rfl | rfl | rfl | rfl | rfl | rfl <;> simp [KnE.eats])) Tryz.underlying24 J0.out J1.out J2.out J3.out rfl (by omega) (by simp [Value.oneCell']) (by unfold maxLen; omega) (by omega) (by omega)
      · obtain rfl := Option.some.inj ho
        exact kn_field0 26 4 9 (by rfl) rfl rfl (by simp) (field4 _)
      · simp at hT
        omega
    · intro u S' w' hp hR fuel listed hsz hl hf
      obtain rfl := listed_eq hsz hl
      have eA := hR.1 (10, 27) (by simp); have eV := hR.1 (9, 26) (by simp)
      simp only at eA eV
      rw [planE_v hp (by rfl) (j := 10) (x := (.pointer (some ⟨N9, 4, none⟩))) rfl rfl] at eA
      obtain ⟨⟨hown, hSg⟩, hSb⟩ := hp.val 9 _ _ _ rfl rfl (fun k M φ hk => by
        rcases k with _ | _ | _ | _ | _ | _ | _ | _ | _ | _ | _ | k
        all_goals first | (cases hk; done) | (exact absurd hk (by unfold knE; simp)))
      obtain ⟨p, q, hv⟩ := row_form hown
      rw [hv] at eV hown hSg
      have hlow : Below N9 w2 w' := ⟨hp.os, hp.tape, hp.output, hp.size, fun b hb => planE_keep hp b (by omega) (FARR b (by omega))⟩
      have hkeep : ∀ b, b < w2.heap.size → some b ≠ (Value.slice none 0 0).ownBlock → w'.heap[b]? = w2.heap[b]? := fun b hb hne => planE_keep hp b hb (by
        intro k hk
        simp only [List.mem_cons, List.not_mem_nil, or_false] at hk
        rcases hk with rfl | rfl | rfl | rfl | rfl | rfl | rfl | rfl | rfl | rfl | rfl
        all_goals first | (intro e; cases e; done) | (intro e; exact hne e.symm))
      have hnew : ∀ b, (Value.slice p (n + 1) q).ownBlock = some b → w2.heap.size ≤ b ∨ (Value.slice none 0 0).ownBlock = some b := fun b e => (hSb b (hSg b e)).1.imp (fun h => h) (fun h => by cases h)
      have hbx := hkeep N9 WX.out.out.lt (fun e => by cases e)
      have HX := Lib.hid (WX.out.setK hown hkeep hnew hlow)
      have hc := (World.cell?_of_block (a := ⟨N9, 4, none⟩) hbx).trans WX.out.out.c4
      have hfz : w'.frozen? ⟨N9, 4, none⟩ = false := by have := WX.out.out.fr 4; simp only [World.frozen?] at this ⊢; rw [hbx]; exact this
      have hst := store_strings N9 4 _ p (n + 1) q w' hc hfz
      have hu : 1 ≤ fuel := Nat.le_trans (Nat.le_of_ble_eq_true rfl) hf
      clear hf hl hsz hp hSb hSg
      refine wpAny_last 11 _ rfl (by kernel_rfl) (by kernel_rfl) rfl (fun K hK => wp_store_slice 24 (.tmp 27) (.tmp 26) rfl rfl ⟨N9, 4, none⟩ p (n + 1) q eA eV hst hK) ?_ fuel hu
      simp only [frameOf, frameL, List.zipIdx_cons, List.zipIdx_nil, Act.put, List.setIfInBounds_toArray, List.set_cons_zero, List.set_cons_succ, Nat.zero_add, Nat.reduceAdd]
      refine hM _ _ (Met.intro (hJ _ _ ?_))
      repeat apply Exists.intro
      refine ⟨?rel, rfl⟩
      case rel => exact ⟨p, q, HX.out⟩
  case rest =>
    obtain ⟨pa, pc, hW3⟩ := hcut
    rename World => w3
    have WX := Lib.hid hW3
    have szw : N9 < w3.heap.size := hW3.out.lt
    have LIESvX := Lib.hid (LIESv.out.keep fun b o e h => hW3.low.block b (SBv.out b o e h))
    clear hW3
    go_upto_region 4 with fail
    go_cut [38] (fun _ wx => ∃ pa pc qa qc, WithAt w ⟨k0, h0, s0, la, ll, lc, ka, m.length, kc, va, m.length, vc⟩ ⟨k1, h1, s1, la1, ll1, lc1, ka1, kl1, kc1, va1, vl1, vc1⟩ N9 pa (n + 1) pc qa (n + 1) qc ((m.map fun p => Value.string p.1).take (n * 1) ++ #[Value.string key].toList) ((cellsOf xs).take (n * 6) ++ (VC.arr ⟨k1, h1, s1, la1, ll1, lc1, ka1, kl1, kc1, va1, vl1, vc1⟩).toList) wx)
    case first =>
      rename_i J9 K9 hJ hM
      obtain ⟨L, hL⟩ : ∃ L : List KnE, L = [.v (.pointer (some ⟨N9, 5, none⟩)), .v (.slice none 0 0), .v (.pointer (some ⟨w.heap.size, 5, none⟩)), .v (.slice va m.length vc), .v (.int .i64 (n : Int)), .v (sliced va 0 n vc 6), .row none (N9 + 1) 26 6 n ((cellsOf xs).take (n * 6)), .v (VC.val ⟨k1, h1, s1, la1, ll1, lc1, ka1, kl1, kc1, va1, vl1, vc1⟩), .one (VC.arr ⟨k1, h1, s1, la1, ll1, lc1, ka1, kl1, kc1, va1, vl1, vc1⟩) 26, .row (some 6) (N9 + 1) 26 6 (n + 1) (((cellsOf xs).take (n * 6)) ++ (VC.arr ⟨k1, h1, s1, la1, ll1, lc1, ka1, kl1, kc1, va1, vl1, vc1⟩).toList), .v (.pointer (some ⟨N9, 5, none⟩))] := ⟨_, rfl⟩
      have FARR : ∀ b, b ≤ N9 → ∀ k ∈ L, k.old ≠ some b := by
        intro b hb k hk
        rw [hL] at hk
        simp only [List.mem_cons, List.not_mem_nil, or_false] at hk
        rcases hk with rfl | rfl | rfl | rfl | rfl | rfl | rfl | rfl | rfl | rfl | rfl
        all_goals first | (intro e; cases e; done) | (intro e; have := (WX.out.vals.lt b e).1; omega)
      subst hL
      refine planK 12 59 [(0, 28), (1, 29), (2, 30), (3, 31), (4, 32), (5, 33), (6, 34), (7, 35), (8, 36), (9, 37), (10, 38)] [(3, (.pointer (some ⟨w.heap.size, 0, none⟩))), (5, (.pointer (some ⟨(w.heap.size + 1), 0, none⟩))), (7, (.int .i64 (n : Int))), (9, (.pointer (some ⟨N9, 0, none⟩))), (1, (.string key))] [.v (.pointer (some ⟨N9, 5, none⟩)), .v (.slice none 0 0), .v (.pointer (some ⟨w.heap.size, 5, none⟩)), .v (.slice va m.length vc), .v (.int .i64 (n : Int)), .v (sliced va 0 n vc 6), .row none (N9 + 1) 26 6 n ((cellsOf xs).take (n * 6)), .v (VC.val ⟨k1, h1, s1, la1, ll1, lc1, ka1, kl1, kc1, va1, vl1, vc1⟩), .one (VC.arr ⟨k1, h1, s1, la1, ll1, lc1, ka1, kl1, kc1, va1, vl1, vc1⟩) 26, .row (some 6) (N9 + 1) 26 6 (n + 1) (((cellsOf xs).take (n * 6)) ++ (VC.arr ⟨k1, h1, s1, la1, ll1, lc1, ka1, kl1, kc1, va1, vl1, vc1⟩).toList), .v (.pointer (some ⟨N9, 5, none⟩))] (by kernel_rfl) (by kernel_rfl) rfl ?_ (by kernel_rfl) (by rfl) (by simp) ?_ (by kernel_rfl) ?_ ?_
      · intro p hp
        simp only [List.mem_cons, List.not_mem_nil, or_false] at hp
        rcases hp with rfl | rfl | rfl | rfl | rfl <;> rfl
      · intro k hk b hb
        simp only [List.mem_cons, List.not_mem_nil, or_false] at hk
        rcases hk with rfl | rfl | rfl | rfl | rfl | rfl | rfl | rfl | rfl | rfl | rfl
        all_goals first | (cases hb; done) | (exact (WX.out.vals.lt b hb).2)
      · intro i o ho hT
        rcases i with _ | _ | _ | _ | _ | _ | _ | _ | _ | _ | _ | i
        · obtain rfl := Option.some.inj ho
          exact kn_field0 26 5 9 (by rfl) rfl rfl (by simp) (field5 _)
        · obtain rfl := Option.some.inj ho
          exact kn_load (a := ⟨N9, 5, none⟩) 23 0 28 (by rfl) rfl rfl (by simp) rfl (by kernel_rfl) WX.out.out.c5 WX.out.out.lt (FARR N9 (by omega)) (load_values _ _ _)
        · obtain rfl := Option.some.inj ho
          exact kn_field0 26 5 3 (by rfl) rfl rfl (by simp) (field5 _)
        · obtain rfl := Option.some.inj ho
          exact kn_load (a := ⟨w.heap.size, 5, none⟩) 23 2 30 (by rfl) rfl rfl (by simp) rfl (by kernel_rfl) WX.out.bc.c5 WX.out.bc.lt (FARR w.heap.size (by omega)) (load_values _ _ _)
        · obtain rfl := Option.some.inj ho
          exact kn_move 7 (by rfl) rfl rfl (by simp)
        · obtain rfl := Option.some.inj ho
          exact kn_head (len := m.length) 23 3 4 31 32 (by rfl) rfl rfl (by simp) rfl (by kernel_rfl) (by simp) rfl (by kernel_rfl) (head_values _ _ _ _ (Nat.le_trans NLv.out HCv.out))
        · obtain rfl := Option.some.inj ho
          exact kn_app0 (inf := i0) (bytes := 104) 23 1 29 (.tmp 33) (by rfl) rfl rfl (by simp) rfl (by kernel_rfl) (src_lies (cs := (cellsOf xs)) 5 33 (by rfl) (by simp) rfl (by kernel_rfl) LIESvX.out (fun b o' e hne => ⟨Nat.lt_of_lt_of_le (SBv.out b o' e hne) (by omega), FARR b (by have := SBv.out b o' e hne; omega)⟩) (fun w' h => src_head h LENv.out NLv.out HCv.out HZv.out)) Tryz.underlying23 I0.out I1.out I2.out I3.out rfl (by omega) (one_take ONEv.out) (by unfold maxLen; omega) (by omega) (by omega)
        · obtain rfl := Option.some.inj ho
          exact kn_load6 5 (by rfl) rfl rfl (by simp) WX.out.bd (FARR (w.heap.size + 1) (by omega))
        · obtain rfl := Option.some.inj ho
          exact kn_one 23 26 7 35 (by rfl) rfl rfl (by simp) rfl (by kernel_rfl) (build_val _)
        · obtain rfl := Option.some.inj ho
          exact kn_app1 (inf := i0) (bytes := 104) 23 6 34 (.tmp 36) rfl rfl (by simp) rfl (by kernel_rfl) (src_one 8 36 (by rfl) (by simp) rfl (by kernel_rfl) (by intro k hk; simp only [List.mem_cons, List.not_mem_nil, or_false] at hk; rcases hk with rfl | rfl | rfl | rfl | rfl | rfl | rfl | rfl | rfl | rfl | rfl <;> simp [KnE.eats])) Tryz.underlying23 I0.out I1.out I2.out I3.out rfl (by omega) (by exact arr_cells _) (by unfold maxLen; omega) (by omega) (by omega)
        · obtain rfl := Option.some.inj ho
          exact kn_field0 26 5 9 (by rfl) rfl rfl (by simp) (field5 _)
        · simp at hT
          omega
      · intro u S' w' hp hR fuel listed hsz hl hf
        obtain rfl := listed_eq hsz hl
        have eA := hR.1 (10, 38) (by simp); have eV := hR.1 (9, 37) (by simp)
        simp only at eA eV
        rw [planE_v hp (by rfl) (j := 10) (x := (.pointer (some ⟨N9, 5, none⟩))) rfl rfl] at eA
        obtain ⟨⟨hown, hSg⟩, hSb⟩ := hp.val 9 _ _ _ rfl rfl (fun k M φ hk => by
          rcases k with _ | _ | _ | _ | _ | _ | _ | _ | _ | _ | _ | k
          all_goals first | (cases hk; done) | (exact absurd hk (by unfold knE; simp)))
        obtain ⟨p, q, hv⟩ := row_form hown
        rw [hv] at eV hown hSg
        have hlow : Below N9 w3 w' := ⟨hp.os, hp.tape, hp.output, hp.size, fun b hb => planE_keep hp b (by omega) (FARR b (by omega))⟩
        have hkeep : ∀ b, b < w3.heap.size → some b ≠ (Value.slice none 0 0).ownBlock → w'.heap[b]? = w3.heap[b]? := fun b hb hne => planE_keep hp b hb (by
          intro k hk
          simp only [List.mem_cons, List.not_mem_nil, or_false] at hk
          rcases hk with rfl | rfl | rfl | rfl | rfl | rfl | rfl | rfl | rfl | rfl | rfl
          all_goals first | (intro e; cases e; done) | (intro e; exact hne e.symm))
        have hnew : ∀ b, (Value.slice p (n + 1) q).ownBlock = some b → w3.heap.size ≤ b ∨ (Value.slice none 0 0).ownBlock = some b := fun b e => (hSb b (hSg b e)).1.imp (fun h => h) (fun h => by cases h)
        have hbx := hkeep N9 WX.out.out.lt (fun e => by cases e)
        have HX := Lib.hid (WX.out.setV hown hkeep hnew hlow)
        have hc := (World.cell?_of_block (a := ⟨N9, 5, none⟩) hbx).trans WX.out.out.c5
        have hfz : w'.frozen? ⟨N9, 5, none⟩ = false := by have := WX.out.out.fr 5; simp only [World.frozen?] at this ⊢; rw [hbx]; exact this
        have hst := store_values N9 5 _ p (n + 1) q w' hc hfz
        have hu : 1 ≤ fuel := Nat.le_trans (Nat.le_of_ble_eq_true rfl) hf
        clear hf hl hsz hp hSb hSg
        refine wpAny_last 11 _ rfl (by kernel_rfl) (by kernel_rfl) rfl (fun K hK => wp_store_slice 23 (.tmp 38) (.tmp 37) rfl rfl ⟨N9, 5, none⟩ p (n + 1) q eA eV hst hK) ?_ fuel hu
        simp only [frameOf, frameL, List.zipIdx_cons, List.zipIdx_nil, Act.put, List.setIfInBounds_toArray, List.set_cons_zero, List.set_cons_succ, Nat.zero_add, Nat.reduceAdd]
        refine hM _ _ (Met.intro (hJ _ _ ?_))
        repeat apply Exists.intro
        refine ⟨?rel, rfl⟩
        case rel => exact ⟨_, _, p, q, HX.out⟩
    case rest =>
      obtain ⟨pa, pc, qa, qc, hW4⟩ := hcut
      rename World => w4
      have WX4 := Lib.hid hW4
      have szw4 : N9 < w4.heap.size := hW4.out.lt
      have hks := hW4.keys.lt; have hvs := hW4.vals.lt
      clear hW4 hks hvs
      have hc2 : ∃ n' : Nat, (key ∈ m.map (·.1) ∧ n' = n + 1 ∧ bm = true) ∨ (key ∉ m.map (·.1) ∧ n' = n ∧ bm = false) := by
        have := HBM.out
        by_cases hk : key ∈ m.map (·.1)
        · exact ⟨n + 1, Or.inl ⟨hk, rfl, by rw [← this]; exact among_true hk⟩⟩
        · exact ⟨n, Or.inr ⟨hk, rfl, by rw [← this]; exact among_false hk⟩⟩
      obtain ⟨n', hc2⟩ := hc2
      have hWJ : withJ m key v = m.take n ++ (key, v) :: m.drop n' ∧ n' ≤ m.length := withJ_at HR.out NLk.out (fun x hx h => by have := HP.out.2.1 x (by simpa using hx) h; simpa [Lt] using this) (fun h => by have := HP.out.2.2 (by simpa using h); simpa [Lt] using this)
        (hc2.imp (fun h => ⟨h.1, h.2.1⟩) (fun h => ⟨h.1, h.2.1⟩))
      have NTk := Lib.hid hWJ.2
      have NTv := NTk
      have HWJ := Lib.hid hWJ.1
      have hn4' : n' ≤ 400 := Nat.le_trans NTk.out hl
      have hnum : (bm = true ∧ ((n : Int) + 1 = (n' : Int))) ∨ (bm = false ∧ ((n : Int) = (n' : Int))) := hc2.imp (fun h => ⟨h.2.2, by rw [h.2.1]; rfl⟩) (fun h => ⟨h.2.2, by rw [h.2.1]⟩)
      clear hc2 hWJ HBM HP WX szw LIESkX LIESvX
      obtain ⟨ks, hks⟩ : ∃ ks, ks = (m.map fun p => Value.string p.1).take (n * 1) ++ #[Value.string key].toList := ⟨_, rfl⟩
      obtain ⟨vs, hvs⟩ : ∃ vs, vs = (cellsOf xs).take (n * 6) ++ (VC.arr ⟨k1, h1, s1, la1, ll1, lc1, ka1, kl1, kc1, va1, vl1, vc1⟩).toList := ⟨_, rfl⟩
      rw [← hks, ← hvs] at WX4
      obtain ⟨pn, hpn⟩ : ∃ pn, pn = n + 1 := ⟨_, rfl⟩
      obtain ⟨qn, hqn⟩ : ∃ qn, qn = n + 1 := ⟨_, rfl⟩
      have WX : Hid (WithAt w ⟨k0, h0, s0, la, ll, lc, ka, m.length, kc, va, m.length, vc⟩ ⟨k1, h1, s1, la1, ll1, lc1, ka1, kl1, kc1, va1, vl1, vc1⟩ N9 pa pn pc qa qn qc ks vs w4) := by rw [hpn, hqn]; exact WX4
      have szw := szw4
      have hpn4 : pn ≤ 401 := by omega
      have hqn4 : qn ≤ 401 := by omega
      have HKS := Lib.hid hks; have HVS := Lib.hid hvs; have HPN := Lib.hid hpn; have HQN := Lib.hid hqn
      have LIESkX := Lib.hid (LIESk.out.keep fun b o e h => WX.out.low.block b (SBk.out b o e h))
      clear WX4 hks hvs hpn hqn szw4
      rcases hnum with ⟨rfl, hn'⟩ | ⟨rfl, hn'⟩
      all_goals
        go_upto_region 7 with fail
        try rw [hn']
        go_cut [49] (fun _ wx => ∃ pa' pc', WithAt w ⟨k0, h0, s0, la, ll, lc, ka, m.length, kc, va, m.length, vc⟩ ⟨k1, h1, s1, la1, ll1, lc1, ka1, kl1, kc1, va1, vl1, vc1⟩ N9 pa' (pn + (m.length - n')) pc' qa qn qc (ks ++ (m.map fun p => Value.string p.1).drop (n' * 1)) vs wx)
        case first =>
          rename_i J9 K9 hJ hM
          obtain ⟨L, hL⟩ : ∃ L : List KnE, L = [.v (.pointer (some ⟨N9, 4, none⟩)), .v (.slice pa pn pc), .v (.pointer (some ⟨w.heap.size, 4, none⟩)), .v (.slice ka m.length kc), .v (.int .i64 (n' : Int)), .v (sliced ka n' m.length kc 1), .rowO (Value.slice pa pn pc).ownBlock (N9 + 1) 9 1 (pn + (m.length - n')) (ks ++ ((m.map fun p => Value.string p.1).drop (n' * 1))), .v (.pointer (some ⟨N9, 4, none⟩))] := ⟨_, rfl⟩
          have FARR : ∀ b, b ≤ N9 → ∀ k ∈ L, k.old ≠ some b := by
            intro b hb k hk
            rw [hL] at hk
            simp only [List.mem_cons, List.not_mem_nil, or_false] at hk
            rcases hk with rfl | rfl | rfl | rfl | rfl | rfl | rfl | rfl
            all_goals first | (intro e; cases e; done) | (intro e; have := (WX.out.keys.lt b e).1; omega)
          subst hL
          refine planK 9 59 [(0, 42), (1, 43), (2, 44), (3, 45), (4, 46), (5, 47), (6, 48), (7, 49)] [(3, (.pointer (some ⟨w.heap.size, 0, none⟩))), (5, (.pointer (some ⟨(w.heap.size + 1), 0, none⟩))), (7, (.int .i64 (n' : Int))), (9, (.pointer (some ⟨N9, 0, none⟩))), (1, (.string key))] [.v (.pointer (some ⟨N9, 4, none⟩)), .v (.slice pa pn pc), .v (.pointer (some ⟨w.heap.size, 4, none⟩)), .v (.slice ka m.length kc), .v (.int .i64 (n' : Int)), .v (sliced ka n' m.length kc 1), .rowO (Value.slice pa pn pc).ownBlock (N9 + 1) 9 1 (pn + (m.length - n')) (ks ++ ((m.map fun p => Value.string p.1).drop (n' * 1))), .v (.pointer (some ⟨N9, 4, none⟩))] (by kernel_rfl) (by kernel_rfl) rfl ?_ (by kernel_rfl) (by rfl) (by simp) ?_ (by kernel_rfl) ?_ ?_
          · intro p hp
            simp only [List.mem_cons, List.not_mem_nil, or_false] at hp
            rcases hp with rfl | rfl | rfl | rfl | rfl <;> rfl
          · intro k hk b hb
            simp only [List.mem_cons, List.not_mem_nil, or_false] at hk
            rcases hk with rfl | rfl | rfl | rfl | rfl | rfl | rfl | rfl
            all_goals first | (cases hb; done) | (exact (WX.out.keys.lt b hb).2)
          · intro i o ho hT
            rcases i with _ | _ | _ | _ | _ | _ | _ | _ | i
            · obtain rfl := Option.some.inj ho
              exact kn_field0 26 4 9 (by rfl) rfl rfl (by simp) (field4 _)
            · obtain rfl := Option.some.inj ho
              exact kn_load (a := ⟨N9, 4, none⟩) 24 0 42 (by rfl) rfl rfl (by simp) rfl (by kernel_rfl) WX.out.out.c4 WX.out.out.lt (FARR N9 (by omega)) (load_strings _ _ _)
            · obtain rfl := Option.some.inj ho
              exact kn_field0 26 4 3 (by rfl) rfl rfl (by simp) (field4 _)
            · obtain rfl := Option.some.inj ho
              exact kn_load (a := ⟨w.heap.size, 4, none⟩) 24 2 44 (by rfl) rfl rfl (by simp) rfl (by kernel_rfl) WX.out.bc.c4 WX.out.bc.lt (FARR w.heap.size (by omega)) (load_strings _ _ _)
            · obtain rfl := Option.some.inj ho
              exact kn_move 7 (by rfl) rfl rfl (by simp)
            · obtain rfl := Option.some.inj ho
              exact kn_tail 24 3 4 45 46 (by rfl) rfl rfl (by simp) rfl (by kernel_rfl) (by simp) rfl (by kernel_rfl) (tail_strings _ _ _ _ NTk.out)
            · obtain rfl := Option.some.inj ho
              exact kn_appO (inf := j0) (bytes := 16) 24 1 43 (.tmp 47) (by rfl) rfl rfl (by simp) rfl (by kernel_rfl) (src_lies (cs := (m.map fun p => Value.string p.1)) 5 47 (by rfl) (by simp) rfl (by kernel_rfl) LIESkX.out (fun b o' e hne => ⟨Nat.lt_of_lt_of_le (SBk.out b o' e hne) (by omega), FARR b (by have := SBk.out b o' e hne; omega)⟩) (fun w' h => src_tail h LENk.out NTk.out HCk.out HZk.out)) Tryz.underlying24 J0.out J1.out J2.out J3.out rfl (by omega) WX.out.keys (one_drop ONEk.out) (by unfold maxLen; omega) (by omega) (by omega)
            · obtain rfl := Option.some.inj ho
              exact kn_field0 26 4 9 (by rfl) rfl rfl (by simp) (field4 _)
            · simp at hT
              omega
          · intro u S' w' hp hR fuel listed hsz hl hf
            obtain rfl := listed_eq hsz hl
            have eA := hR.1 (7, 49) (by simp); have eV := hR.1 (6, 48) (by simp)
            simp only at eA eV
            rw [planE_v hp (by rfl) (j := 7) (x := (.pointer (some ⟨N9, 4, none⟩))) rfl rfl] at eA
            obtain ⟨⟨hown, hSg⟩, hSb⟩ := hp.val 6 _ _ _ rfl rfl (fun k M φ hk => by
              rcases k with _ | _ | _ | _ | _ | _ | _ | _ | k
              all_goals first | (cases hk; done) | (exact absurd hk (by unfold knE; simp)))
            obtain ⟨p, q, hv⟩ := row_form hown
            rw [hv] at eV hown hSg
            have hlow : Below N9 w4 w' := ⟨hp.os, hp.tape, hp.output, hp.size, fun b hb => planE_keep hp b (by omega) (FARR b (by omega))⟩
            have hkeep : ∀ b, b < w4.heap.size → some b ≠ (Value.slice pa pn pc).ownBlock → w'.heap[b]? = w4.heap[b]? := fun b hb hne => planE_keep hp b hb (by
              intro k hk
              simp only [List.mem_cons, List.not_mem_nil, or_false] at hk
              rcases hk with rfl | rfl | rfl | rfl | rfl | rfl | rfl | rfl
              all_goals first | (intro e; cases e; done) | (intro e; exact hne e.symm))
            have hnew : ∀ b, (Value.slice p (pn + (m.length - n')) q).ownBlock = some b → w4.heap.size ≤ b ∨ (Value.slice pa pn pc).ownBlock = some b := fun b e => (hSb b (hSg b e)).1.imp (fun h => h) (fun h => h.symm)
            have hbx := hkeep N9 WX.out.out.lt (fun e => by have := (WX.out.keys.lt N9 e.symm).1; omega)
            have HX := Lib.hid (WX.out.setK hown hkeep hnew hlow)
            have hc := (World.cell?_of_block (a := ⟨N9, 4, none⟩) hbx).trans WX.out.out.c4
            have hfz : w'.frozen? ⟨N9, 4, none⟩ = false := by have := WX.out.out.fr 4; simp only [World.frozen?] at this ⊢; rw [hbx]; exact this
            have hst := store_strings N9 4 _ p (pn + (m.length - n')) q w' hc hfz
            have hu : 1 ≤ fuel := Nat.le_trans (Nat.le_of_ble_eq_true rfl) hf
            clear hf hl hsz hp hSb hSg
            refine wpAny_last 8 _ rfl (by kernel_rfl) (by kernel_rfl) rfl (fun K hK => wp_store_slice 24 (.tmp 49) (.tmp 48) rfl rfl ⟨N9, 4, none⟩ p (pn + (m.length - n')) q eA eV hst hK) ?_ fuel hu
            simp only [frameOf, frameL, List.zipIdx_cons, List.zipIdx_nil, Act.put, List.setIfInBounds_toArray, List.set_cons_zero, List.set_cons_succ, Nat.zero_add, Nat.reduceAdd]
            refine hM _ _ (Met.intro (hJ _ _ ?_))
            repeat apply Exists.intro
            refine ⟨?rel, rfl⟩
            case rel => exact ⟨p, q, HX.out⟩
        case rest =>
          obtain ⟨ra, rc, hW5⟩ := hcut
          rename World => w5
          have WX5 := Lib.hid hW5
          have szw5 : N9 < w5.heap.size := hW5.out.lt
          clear hW5 WX szw LIESkX
          obtain ⟨ks2, hks2⟩ : ∃ ks2, ks2 = ks ++ (m.map fun p => Value.string p.1).drop (n' * 1) := ⟨_, rfl⟩
          obtain ⟨rn, hrn⟩ : ∃ rn, rn = pn + (m.length - n') := ⟨_, rfl⟩
          rw [← hks2, ← hrn] at WX5
          have WX : Hid (WithAt w ⟨k0, h0, s0, la, ll, lc, ka, m.length, kc, va, m.length, vc⟩ ⟨k1, h1, s1, la1, ll1, lc1, ka1, kl1, kc1, va1, vl1, vc1⟩ N9 ra rn rc qa qn qc ks2 vs w5) := WX5
          have szw := szw5
          have LIESvX := Lib.hid (LIESv.out.keep fun b o e h => WX.out.low.block b (SBv.out b o e h))
          have HKS2 := Lib.hid hks2; have HRN := Lib.hid hrn
          clear WX5 szw5 hks2 hrn
          go_upto_region 8 with fail
          go_cut [57] (fun _ wx => ∃ qa' qc', WithAt w ⟨k0, h0, s0, la, ll, lc, ka, m.length, kc, va, m.length, vc⟩ ⟨k1, h1, s1, la1, ll1, lc1, ka1, kl1, kc1, va1, vl1, vc1⟩ N9 ra rn rc qa' (qn + (m.length - n')) qc' ks2 (vs ++ (cellsOf xs).drop (n' * 6)) wx)
          case first =>
            rename_i J9 K9 hJ hM
            obtain ⟨L, hL⟩ : ∃ L : List KnE, L = [.v (.pointer (some ⟨N9, 5, none⟩)), .v (.slice qa qn qc), .v (.pointer (some ⟨w.heap.size, 5, none⟩)), .v (.slice va m.length vc), .v (.int .i64 (n' : Int)), .v (sliced va n' m.length vc 6), .rowO (Value.slice qa qn qc).ownBlock (N9 + 1) 26 6 (qn + (m.length - n')) (vs ++ ((cellsOf xs).drop (n' * 6))), .v (.pointer (some ⟨N9, 5, none⟩))] := ⟨_, rfl⟩
            have FARR : ∀ b, b ≤ N9 → ∀ k ∈ L, k.old ≠ some b := by
              intro b hb k hk
              rw [hL] at hk
              simp only [List.mem_cons, List.not_mem_nil, or_false] at hk
              rcases hk with rfl | rfl | rfl | rfl | rfl | rfl | rfl | rfl
              all_goals first | (intro e; cases e; done) | (intro e; have := (WX.out.vals.lt b e).1; omega)
            subst hL
            refine planK 9 59 [(0, 50), (1, 51), (2, 52), (3, 53), (4, 54), (5, 55), (6, 56), (7, 57)] [(3, (.pointer (some ⟨w.heap.size, 0, none⟩))), (5, (.pointer (some ⟨(w.heap.size + 1), 0, none⟩))), (7, (.int .i64 (n' : Int))), (9, (.pointer (some ⟨N9, 0, none⟩))), (1, (.string key))] [.v (.pointer (some ⟨N9, 5, none⟩)), .v (.slice qa qn qc), .v (.pointer (some ⟨w.heap.size, 5, none⟩)), .v (.slice va m.length vc), .v (.int .i64 (n' : Int)), .v (sliced va n' m.length vc 6), .rowO (Value.slice qa qn qc).ownBlock (N9 + 1) 26 6 (qn + (m.length - n')) (vs ++ ((cellsOf xs).drop (n' * 6))), .v (.pointer (some ⟨N9, 5, none⟩))] (by kernel_rfl) (by kernel_rfl) rfl ?_ (by kernel_rfl) (by rfl) (by simp) ?_ (by kernel_rfl) ?_ ?_
            · intro p hp
              simp only [List.mem_cons, List.not_mem_nil, or_false] at hp
              rcases hp with rfl | rfl | rfl | rfl | rfl <;> rfl
            · intro k hk b hb
              simp only [List.mem_cons, List.not_mem_nil, or_false] at hk
              rcases hk with rfl | rfl | rfl | rfl | rfl | rfl | rfl | rfl
              all_goals first | (cases hb; done) | (exact (WX.out.vals.lt b hb).2)
            · intro i o ho hT
              rcases i with _ | _ | _ | _ | _ | _ | _ | _ | i
              · obtain rfl := Option.some.inj ho
                exact kn_field0 26 5 9 (by rfl) rfl rfl (by simp) (field5 _)
              · obtain rfl := Option.some.inj ho
                exact kn_load (a := ⟨N9, 5, none⟩) 23 0 50 (by rfl) rfl rfl (by simp) rfl (by kernel_rfl) WX.out.out.c5 WX.out.out.lt (FARR N9 (by omega)) (load_values _ _ _)
              · obtain rfl := Option.some.inj ho
                exact kn_field0 26 5 3 (by rfl) rfl rfl (by simp) (field5 _)
              · obtain rfl := Option.some.inj ho
                exact kn_load (a := ⟨w.heap.size, 5, none⟩) 23 2 52 (by rfl) rfl rfl (by simp) rfl (by kernel_rfl) WX.out.bc.c5 WX.out.bc.lt (FARR w.heap.size (by omega)) (load_values _ _ _)
              · obtain rfl := Option.some.inj ho
                exact kn_move 7 (by rfl) rfl rfl (by simp)
              · obtain rfl := Option.some.inj ho
                exact kn_tail 23 3 4 53 54 (by rfl) rfl rfl (by simp) rfl (by kernel_rfl) (by simp) rfl (by kernel_rfl) (tail_values _ _ _ _ NTv.out)
              · obtain rfl := Option.some.inj ho
                exact kn_appO (inf := i0) (bytes := 104) 23 1 51 (.tmp 55) (by rfl) rfl rfl (by simp) rfl (by kernel_rfl) (src_lies (cs := (cellsOf xs)) 5 55 (by rfl) (by simp) rfl (by kernel_rfl) LIESvX.out (fun b o' e hne => ⟨Nat.lt_of_lt_of_le (SBv.out b o' e hne) (by omega), FARR b (by have := SBv.out b o' e hne; omega)⟩) (fun w' h => src_tail h LENv.out NTv.out HCv.out HZv.out)) Tryz.underlying23 I0.out I1.out I2.out I3.out rfl (by omega) WX.out.vals (one_drop ONEv.out) (by unfold maxLen; omega) (by omega) (by omega)
              · obtain rfl := Option.some.inj ho
                exact kn_field0 26 5 9 (by rfl) rfl rfl (by simp) (field5 _)
              · simp at hT
                omega
            · intro u S' w' hp hR fuel listed hsz hl hf
              obtain rfl := listed_eq hsz hl
              have eA := hR.1 (7, 57) (by simp); have eV := hR.1 (6, 56) (by simp)
              simp only at eA eV
              rw [planE_v hp (by rfl) (j := 7) (x := (.pointer (some ⟨N9, 5, none⟩))) rfl rfl] at eA
              obtain ⟨⟨hown, hSg⟩, hSb⟩ := hp.val 6 _ _ _ rfl rfl (fun k M φ hk => by
                rcases k with _ | _ | _ | _ | _ | _ | _ | _ | k
                all_goals first | (cases hk; done) | (exact absurd hk (by unfold knE; simp)))
              obtain ⟨p, q, hv⟩ := row_form hown
              rw [hv] at eV hown hSg
              have hlow : Below N9 w5 w' := ⟨hp.os, hp.tape, hp.output, hp.size, fun b hb => planE_keep hp b (by omega) (FARR b (by omega))⟩
              have hkeep : ∀ b, b < w5.heap.size → some b ≠ (Value.slice qa qn qc).ownBlock → w'.heap[b]? = w5.heap[b]? := fun b hb hne => planE_keep hp b hb (by
                intro k hk
                simp only [List.mem_cons, List.not_mem_nil, or_false] at hk
                rcases hk with rfl | rfl | rfl | rfl | rfl | rfl | rfl | rfl
                all_goals first | (intro e; cases e; done) | (intro e; exact hne e.symm))
              have hnew : ∀ b, (Value.slice p (qn + (m.length - n')) q).ownBlock = some b → w5.heap.size ≤ b ∨ (Value.slice qa qn qc).ownBlock = some b := fun b e => (hSb b (hSg b e)).1.imp (fun h => h) (fun h => h.symm)
              have hbx := hkeep N9 WX.out.out.lt (fun e => by have := (WX.out.vals.lt N9 e.symm).1; omega)
              have HX := Lib.hid (WX.out.setV hown hkeep hnew hlow)
              have hc := (World.cell?_of_block (a := ⟨N9, 5, none⟩) hbx).trans WX.out.out.c5
              have hfz : w'.frozen? ⟨N9, 5, none⟩ = false := by have := WX.out.out.fr 5; simp only [World.frozen?] at this ⊢; rw [hbx]; exact this
              have hst := store_values N9 5 _ p (qn + (m.length - n')) q w' hc hfz
              have hu : 1 ≤ fuel := Nat.le_trans (Nat.le_of_ble_eq_true rfl) hf
              clear hf hl hsz hp hSb hSg
              refine wpAny_last 8 _ rfl (by kernel_rfl) (by kernel_rfl) rfl (fun K hK => wp_store_slice 23 (.tmp 57) (.tmp 56) rfl rfl ⟨N9, 5, none⟩ p (qn + (m.length - n')) q eA eV hst hK) ?_ fuel hu
              simp only [frameOf, frameL, List.zipIdx_cons, List.zipIdx_nil, Act.put, List.setIfInBounds_toArray, List.set_cons_zero, List.set_cons_succ, Nat.zero_add, Nat.reduceAdd]
              refine hM _ _ (Met.intro (hJ _ _ ?_))
              repeat apply Exists.intro
              refine ⟨?rel, rfl⟩
              case rel => exact ⟨p, q, HX.out⟩
          case rest =>
            obtain ⟨ta, tc, hW6⟩ := hcut
            rename World => w6
            have WZ := Lib.hid hW6
            have ob := hW6.out; have br := hW6.br; have szn := hW6.hN; have lto := hW6.out.lt
            have q0 := ob.c0; have q1 := ob.c1; have q2 := ob.c2; have q3 := ob.c3; have q4 := ob.c4; have q5 := ob.c5
            have r0 := br.c0; have r1 := br.c1; have r2 := br.c2; have r3 := br.c3; have r4 := br.c4; have r5 := br.c5; have rf := br.fr; have rlt := br.lt
            unfold VC.nil at r0 r1 r2 r3 r4 r5
            simp only at r0 r1 r2 r3 r4 r5
            clear hW6 ob br WX szw LIESvX
            have SZN := Lib.hid szn; have SZ2 := Lib.hid szN
            clear hn'
            clear hn4 hn4' hpn4 hqn4 szn szN hl
            go_wp2_with fail
            have szn := SZN.out; have szN := SZ2.out
            refine bodyPost_ret (v := .agg #[.int .i64 6, .int .i64 0, .string ByteArray.empty, .slice none 0 0, .slice ra rn rc, .slice ta (qn + (m.length - n')) tc]) (by simp [results, Tryz.results78, go_sem, r0, r1, r2, r3, r4, r5]) rfl ?_
            have hz := WZ.out
            have ek : ks2 = (withJ m key v).map fun p => Value.string p.1 := by
              rw [HKS2.out, HKS.out, HWJ.out]
              simp [List.map_take, List.map_drop]
            have ev : vs ++ (cellsOf xs).drop (n' * 6) = cellsOf (xs.take n ++ ⟨k1, h1, s1, la1, ll1, lc1, ka1, kl1, kc1, va1, vl1, vc1⟩ :: xs.drop n') := by
              rw [HVS.out, (cellsOf_split xs (n := n) (by rw [HXL.out]; exact NLk.out)).1, (cellsOf_split xs (n := n') (by rw [HXL.out]; exact NTk.out)).2, cellsOf_append]
              rw [show ⟨k1, h1, s1, la1, ll1, lc1, ka1, kl1, kc1, va1, vl1, vc1⟩ :: xs.drop n' = [⟨k1, h1, s1, la1, ll1, lc1, ka1, kl1, kc1, va1, vl1, vc1⟩] ++ xs.drop n' from rfl, cellsOf_append, cellsOf_one, List.append_assoc]
            have hS6 : Same S w w6 := fun b hb => hz.low.block b (HS.out b hb)
            obtain ⟨hlen, hrd⟩ := with_rd (w := w6) (S := S) (key := key) (v := v) (d := ⟨k1, h1, s1, la1, ll1, lc1, ka1, kl1, kc1, va1, vl1, vc1⟩) (n := n) (n' := n') HXL.out (fun i hi hx => (HXV.out i hi hx).go hS6 (fun _ h => h)) (HD.out.go hS6 (fun _ h => h)) NLk.out NTk.out
            have hK := hz.keys
            have hVv := hz.vals
            rw [ek] at hK
            rw [ev] at hVv
            have hrd' : ∀ i (_ : i < (withJ m key v).length) (h : i < (xs.take n ++ ⟨k1, h1, s1, la1, ll1, lc1, ka1, kl1, kc1, va1, vl1, vc1⟩ :: xs.drop n').length), VR w6 S (withJ m key v)[i].2 (xs.take n ++ ⟨k1, h1, s1, la1, ll1, lc1, ka1, kl1, kc1, va1, vl1, vc1⟩ :: xs.drop n')[i] := by
              rw [HWJ.out]; exact hrd
            have hfin := obj_read hK hVv (by rw [HWJ.out]; exact hlen) hrd'
            exact spec_end (w6 := w6) (N := w.heap.size + 1 + 1) (lo := N9 + 1) ⟨6, 0, ByteArray.empty, none, 0, 0, ra, rn, rc, ta, qn + (m.length - n'), tc⟩ hz.low (by omega) HS.out (by omega) hfin
end Go.Proofs.YtfgmegfgifeaiaaGreatDoor
