/- A part of the proof. spec.Get: the value of a key that is there. An array read off a row, and what is appended of one. A spot: a path and a value, its seven cells. spec.Spot.below: one more step of a path. Paths and steps as the program holds them; the ways by keys and values. Spots in a region that draws its order, and rows of spots. -/
import Derived.Test.YtnaijgdffbfapaaGreatDoorM30
import Derived.Test.YtnaijgdffbfapaaGreatDoorZPlace
import Derived.LoopTactic
import Derived.Deep.DeepCutAuto
import Derived.Deep.CutBlock
import Derived.Test.YtnaijgdffbfapaaGreatDoorM20
import Derived.Test.YtnaijgdffbfapaaGreatDoorM1
import Derived.Test.YtnaijgdffbfapaaGreatDoorM5
namespace Go.Proofs.YtnaijgdffbfapaaGreatDoor
open Go.RowKit

set_option maxRecDepth 100000 in
set_option maxHeartbeats 4000000 in
theorem With_any {S : Nat → Prop} (m : List (ByteArray × J)) (c d : VC) (key : ByteArray) (v : J) {w : World} (hl : m.length ≤ 400) (hr : Rises m) (hV : VR w S (.obj m) c) (hd : VR w S v d) (hS : ∀ b, S b → b < w.heap.size) :
    Calls Tryz.prog 12 #[c.val, .string key, d.val] w fun e w' => ∃ x, e = .returned x.val ∧ VR w' (fun b => S b ∨ New w.heap.size w' b) (.obj (withJ m key v)) x ∧ Below w.heap.size w w' := by
  obtain ⟨i0, hi, hz0, hz1, hz2⟩ := info_parts info_value
  obtain ⟨j0, gi, gz0, gz1, gz2⟩ := info_parts info_string
  obtain ⟨xs, hxl, hxv, hLK, hLV, hSk, hSv⟩ := vr_obj hV
  have hh := hV.head
  have hkl : c.kl = m.length := hh.kl
  have hvl : c.vl = m.length := hh.vl
  have hkc := hh.kc; have hvc := hh.vc; have hkn := hh.kn; have hvn := hh.vn
  obtain ⟨WA, hWA⟩ : ∃ WA, WA = ((w.alloc (.cells c.arr 26)).alloc (.cells d.arr 26)).alloc (.cells VC.nil.arr 26) := ⟨_, rfl⟩
  have hA0 : Below w.heap.size w WA := by rw [hWA]; exact (((Below.refl _ _).alloc (Nat.le_refl _) _).alloc (by simp) _).alloc (by simp; omega) _
  have hA1 : Box WA w.heap.size c := by rw [hWA]; exact (box_alloc w c).below (((Below.refl (w.heap.size + 1) _).alloc (by simp) _).alloc (by simp) _) (by omega)
  have hA2 : Box WA (w.heap.size + 1) d := by
    rw [hWA]
    have := box_alloc (w.alloc (.cells c.arr 26)) d
    simp only [World.size_alloc] at this
    exact this.below ((Below.refl (w.heap.size + 2) _).alloc (by simp) _) (by omega)
  have hA3 : Box WA (w.heap.size + 1 + 1) VC.nil := by
    rw [hWA]
    have := box_alloc ((w.alloc (.cells c.arr 26)).alloc (.cells d.arr 26)) VC.nil
    simp only [World.size_alloc] at this
    exact this
  have hAs : WA.heap.size = w.heap.size + 3 := by rw [hWA]; simp
  have P := Lib.hid (place_any (S := S) (m.map fun x : ByteArray × J => x.1) c key (w := WA) (by simpa using hl) (fun b h => by have := hS b h; omega) (by simpa using hkl)
    (fun i hi => by
      have hi' : i < m.length := by simpa using hi
      obtain ⟨b, o, e, hc⟩ := hLK i (.string m[i].1) (by simp [hi'])
      have hb := hSk b o e (List.ne_nil_of_length_pos (by omega))
      exact ⟨b, o, e, hb, by simpa using (World.cell?_of_block (a := ⟨b, o + i, none⟩) (hA0.block b (hS b hb))).trans hc⟩)
    (fun i hi => by have := hr.adj i (by simpa using hi); simpa using this))
  have HA0 := Lib.hid hA0; have HA1 := Lib.hid hA1; have HA2 := Lib.hid hA2; have HA3 := Lib.hid hA3
  have HXV := Lib.hid hxv; have HD := Lib.hid hd; have HS := Lib.hid hS; have HR := Lib.hid hr
  have LIESk := Lib.hid hLK; have LIESv := Lib.hid hLV
  have hmk : m.map (fun p => Value.string p.1) ≠ [] → m ≠ [] := fun h e => h (by rw [e]; rfl)
  have hmv : cellsOf xs ≠ [] → m ≠ [] := fun h e => h (by rw [e] at hxl; rw [List.eq_nil_of_length_eq_zero hxl]; rfl)
  have SBk := Lib.hid fun b o (e : c.ka = some ⟨b, o, none⟩) (hne : m.map (fun p => Value.string p.1) ≠ []) => hS b (hSk b o e (hmk hne))
  have SBv := Lib.hid fun b o (e : c.va = some ⟨b, o, none⟩) (hne : cellsOf xs ≠ []) => hS b (hSv b o e (hmv hne))
  have ONEk := Lib.hid (strings_one m); have ONEv := Lib.hid (cells_one xs)
  have I0 := Lib.hid hi; have I1 := Lib.hid hz0; have I2 := Lib.hid hz1; have I3 := Lib.hid hz2
  have J0 := Lib.hid gi; have J1 := Lib.hid gz0; have J2 := Lib.hid gz1; have J3 := Lib.hid gz2
  have HXL := Lib.hid hxl
  clear hi hz0 hz1 hz2 gi gz0 gz1 gz2 hh hV hA0 hA1 hA2 hA3 hxv hd hS hr hLK hLV hSk hSv hmk hmv
  obtain ⟨k0, h0, s0, la, ll, lc, ka, kl, kc, va, vl, vc⟩ := c
  obtain ⟨k1, h1, s1, la1, ll1, lc1, ka1, kl1, kc1, va1, vl1, vc1⟩ := d
  simp only at hkl hvl hkc hvc hkn hvn LIESk LIESv SBk SBv
  subst hkl
  have LENk : Hid ((m.map fun p => Value.string p.1).length = m.length * 1) := Lib.hid (by simp)
  have LENv : Hid ((cellsOf xs).length = m.length * 6) := Lib.hid (by rw [cellsOf_length, HXL.out])
  subst hvl
  have HCk := Lib.hid hkc; have HCv := Lib.hid hvc; have HZk := Lib.hid hkn; have HZv := Lib.hid hvn
  clear hkc hvc hkn hvn hxl
  unfold VC.val VC.arr VC.nil at *
  go_enter Tryz.func12, Tryz.ntmps12
  go_wp2_with fail
  rw [show ByteArray.mk #[] = ByteArray.empty from rfl, ← hWA]
  refine P.out.mono ?_
  rintro e w1 ⟨n, rfl, hpl, hb1⟩
  have HP := Lib.hid hpl
  have HB1 := Lib.hid hb1
  have hs1 := hb1.size
  clear hpl hb1 P
  generalize hbm : among key (m.map fun x : ByteArray × J => x.1) = bm
  have HBM := Lib.hid hbm
  clear hbm
  have BO := Lib.hid (box_alloc w1 ⟨6, 0, ByteArray.empty, none, 0, 0, none, 0, 0, none, 0, 0⟩)
  unfold VC.arr at BO
  go_upto_region 3 with fail
  obtain ⟨N9, hN9⟩ : ∃ N9, N9 = w1.heap.size := ⟨_, rfl⟩
  rw [← hN9] at BO ⊢
  have hlow1 : Below w.heap.size w w1 := HA0.out.trans (HB1.out.mono HA0.out.size)
  obtain ⟨w2, hw2⟩ : ∃ w2, w2 = w1.alloc (.cells #[.int .i64 6, .int .i64 0, .string ByteArray.empty, .slice none 0 0, .slice none 0 0, .slice none 0 0] 26) := ⟨_, rfl⟩
  rw [show ByteArray.mk #[] = ByteArray.empty from rfl, ← hw2]
  have hlow2 : Below N9 w1 w2 := by rw [hw2, hN9]; exact (Below.refl _ _).alloc (Nat.le_refl _) _
  have WX : Hid (WithAt w ⟨k0, h0, s0, la, ll, lc, ka, m.length, kc, va, m.length, vc⟩ ⟨k1, h1, s1, la1, ll1, lc1, ka1, kl1, kc1, va1, vl1, vc1⟩ N9 none 0 0 none 0 0 [] [] w2) := Lib.hid ⟨hlow1.trans (hlow2.mono (by omega)), (HA1.out.below HB1.out (by omega)).below hlow2 (by omega), (HA2.out.below HB1.out (by omega)).below hlow2 (by omega), (HA3.out.below HB1.out (by omega)).below hlow2 (by omega), (by rw [hw2]; exact BO.out), World.ownsRow_nil _ _ _ _, World.ownsRow_nil _ _ _ _, (fun b h => by cases h), by omega⟩
  have NLk := Lib.hid (show n ≤ m.length by have := HP.out.1; simpa using this)
  have NLv := NLk
  have szw : N9 < w2.heap.size := by rw [hw2, hN9]; simp
  have szN : w.heap.size + 2 < N9 := WX.out.hN
  have hn4 : n ≤ 400 := Nat.le_trans NLk.out hl
  clear hw2 hlow1 hlow2 hWA hAs hs1 hN9
  have LIESkX := Lib.hid (LIESk.out.keep fun b o e h => WX.out.low.block b (SBk.out b o e h))
  go_cut [27] (fun _ wx => ∃ pa pc, WithAt w ⟨k0, h0, s0, la, ll, lc, ka, m.length, kc, va, m.length, vc⟩ ⟨k1, h1, s1, la1, ll1, lc1, ka1, kl1, kc1, va1, vl1, vc1⟩ N9 pa (n + 1) pc none 0 0 ((m.map fun p => Value.string p.1).take (n * 1) ++ #[Value.string key].toList) [] wx)
  case first =>
    rename_i J9 K9 hJ hM
    obtain ⟨L, hL⟩ : ∃ L : List KnE, L = [.v (.pointer (some ⟨N9, 4, none⟩)), .v (.slice none 0 0), .v (.pointer (some ⟨w.heap.size, 4, none⟩)), .v (.slice ka m.length kc), .v (.int .i64 (n : Int)), .v (sliced ka 0 n kc 1), .row none (N9 + 1) 9 1 n ((m.map fun p => Value.string p.1).take (n * 1)), .v (.string key), .one #[.string key] 9, .row (some 6) (N9 + 1) 9 1 (n + 1) (((m.map fun p => Value.string p.1).take (n * 1)) ++ #[.string key].toList), .v (.pointer (some ⟨N9, 4, none⟩))] := ⟨_, rfl⟩
    have FARR : ∀ b, b ≤ N9 → ∀ k ∈ L, k.old ≠ some b := by
      intro b hb k hk
      rw [hL] at hk
      simp only [List.mem_cons, List.not_mem_nil, or_false] at hk
      rcases hk with rfl | rfl | rfl | rfl | rfl | rfl | rfl | rfl | rfl | rfl | rfl
      all_goals first | (intro e; cases e; done) | (intro e; have := (WX.out.keys.lt b e).1; omega)
    subst hL
    refine planK 12 59 [(0, 17), (1, 18), (2, 19), (3, 20), (4, 21), (5, 22), (6, 23), (7, 24), (8, 25), (9, 26), (10, 27)] [(3, (.pointer (some ⟨w.heap.size, 0, none⟩))), (5, (.pointer (some ⟨(w.heap.size + 1), 0, none⟩))), (7, (.int .i64 (n : Int))), (9, (.pointer (some ⟨N9, 0, none⟩))), (1, (.string key))] [.v (.pointer (some ⟨N9, 4, none⟩)), .v (.slice none 0 0), .v (.pointer (some ⟨w.heap.size, 4, none⟩)), .v (.slice ka m.length kc), .v (.int .i64 (n : Int)), .v (sliced ka 0 n kc 1), .row none (N9 + 1) 9 1 n ((m.map fun p => Value.string p.1).take (n * 1)), .v (.string key), .one #[.string key] 9, .row (some 6) (N9 + 1) 9 1 (n + 1) (((m.map fun p => Value.string p.1).take (n * 1)) ++ #[.string key].toList), .v (.pointer (some ⟨N9, 4, none⟩))] (by kernel_rfl) (by kernel_rfl) rfl ?_ (by kernel_rfl) (by rfl) (by simp) ?_ (by kernel_rfl) ?_ ?_
    · intro p hp
      simp only [List.mem_cons, List.not_mem_nil, or_false] at hp
      rcases hp with rfl | rfl | rfl | rfl | rfl <;> rfl
    · intro k hk b hb
      simp only [List.mem_cons, List.not_mem_nil, or_false] at hk
      rcases hk with rfl | rfl | rfl | rfl | rfl | rfl | rfl | rfl | rfl | rfl | rfl
      all_goals first | (cases hb; done) | (exact (WX.out.keys.lt b hb).2)
    · intro i o ho hT
      rcases i with _ | _ | _ | _ | _ | _ | _ | _ | _ | _ | _ | i
      · obtain rfl := Option.some.inj ho
        exact kn_field0 26 4 9 (by rfl) rfl rfl (by simp) (field4 _)
      · obtain rfl := Option.some.inj ho
        exact kn_load (a := ⟨N9, 4, none⟩) 24 0 17 (by rfl) rfl rfl (by simp) rfl (by kernel_rfl) WX.out.out.c4 WX.out.out.lt (FARR N9 (by omega)) (load_strings _ _ _)
      · obtain rfl := Option.some.inj ho
        exact kn_field0 26 4 3 (by rfl) rfl rfl (by simp) (field4 _)
      · obtain rfl := Option.some.inj ho
        exact kn_load (a := ⟨w.heap.size, 4, none⟩) 24 2 19 (by rfl) rfl rfl (by simp) rfl (by kernel_rfl) WX.out.bc.c4 WX.out.bc.lt (FARR w.heap.size (by omega)) (load_strings _ _ _)
      · obtain rfl := Option.some.inj ho
        exact kn_move 7 (by rfl) rfl rfl (by simp)
      · obtain rfl := Option.some.inj ho
        exact kn_head (len := m.length) 24 3 4 20 21 (by rfl) rfl rfl (by simp) rfl (by kernel_rfl) (by simp) rfl (by kernel_rfl) (head_strings _ _ _ _ (Nat.le_trans NLk.out HCk.out))
      · obtain rfl := Option.some.inj ho
        exact kn_app0 (inf := j0) (bytes := 16) 24 1 18 (.tmp 22) (by rfl) rfl rfl (by simp) rfl (by kernel_rfl) (src_lies (cs := (m.map fun p => Value.string p.1)) 5 22 (by rfl) (by simp) rfl (by kernel_rfl) LIESkX.out (fun b o' e hne => ⟨Nat.lt_of_lt_of_le (SBk.out b o' e hne) (by omega), FARR b (by have := SBk.out b o' e hne; omega)⟩) (fun w' h => src_head h LENk.out NLk.out HCk.out HZk.out)) Tryz.underlying24 J0.out J1.out J2.out J3.out rfl (by omega) (one_take ONEk.out) (by unfold maxLen; omega) (by omega) (by omega)
      · obtain rfl := Option.some.inj ho
        exact kn_move 1 (by rfl) rfl rfl (by simp)
      · obtain rfl := Option.some.inj ho
        exact kn_one 24 9 7 24 (by rfl) rfl rfl (by simp) rfl (by kernel_rfl) (build_key key)
      · obtain rfl := Option.some.inj ho
        exact kn_app1 (inf := j0) (bytes := 16) 24 6 23 (.tmp 25) rfl rfl (by simp) rfl (by kernel_rfl) (src_one 8 25 (by rfl) (by simp) rfl (by kernel_rfl) (by intro k hk; simp only [List.mem_cons, List.not_mem_nil, or_false] at hk; rcases hk with rfl | rfl | rfl | rfl | rfl | rfl | rfl | rfl | rfl | rfl | rfl <;> simp [KnE.eats])) Tryz.underlying24 J0.out J1.out J2.out J3.out rfl (by omega) (by simp [Value.oneCell']) (by unfold maxLen; omega) (by omega) (by omega)
      · obtain rfl := Option.some.inj ho
        exact kn_field0 26 4 9 (by rfl) rfl rfl (by simp) (field4 _)
      · simp at hT
        omega
    · intro u S' w' hp hR fuel listed hsz hl hf
      obtain rfl := listed_eq hsz hl
      have eA := hR.1 (10, 27) (by simp); have eV := hR.1 (9, 26) (by simp)
      simp only at eA eV
      rw [planE_v hp (by rfl) (j := 10) (x := (.pointer (some ⟨N9, 4, none⟩))) rfl rfl] at eA
      obtain ⟨⟨hown, hSg⟩, hSb⟩ := hp.val 9 _ _ _ rfl rfl (fun k M φ hk => by
        rcases k with _ | _ | _ | _ | _ | _ | _ | _ | _ | _ | _ | k
        all_goals first | (cases hk; done) | (exact absurd hk (by unfold knE; simp)))
      obtain ⟨p, q, hv⟩ := row_form hown
      rw [hv] at eV hown hSg
      have hlow : Below N9 w2 w' := ⟨hp.os, hp.tape, hp.output, hp.size, fun b hb => planE_keep hp b (by omega) (FARR b (by omega))⟩
      have hkeep : ∀ b, b < w2.heap.size → some b ≠ (Value.slice none 0 0).ownBlock → w'.heap[b]? = w2.heap[b]? := fun b hb hne => planE_keep hp b hb (by
        intro k hk
        simp only [List.mem_cons, List.not_mem_nil, or_false] at hk
        rcases hk with rfl | rfl | rfl | rfl | rfl | rfl | rfl | rfl | rfl | rfl | rfl
        all_goals first | (intro e; cases e; done) | (intro e; exact hne e.symm))
      have hnew : ∀ b, (Value.slice p (n + 1) q).ownBlock = some b → w2.heap.size ≤ b ∨ (Value.slice none 0 0).ownBlock = some b := fun b e => (hSb b (hSg b e)).1.imp (fun h => h) (fun h => by cases h)
      have hbx := hkeep N9 WX.out.out.lt (fun e => by cases e)
      have HX := Lib.hid (WX.out.setK hown hkeep hnew hlow)
      have hc := (World.cell?_of_block (a := ⟨N9, 4, none⟩) hbx).trans WX.out.out.c4
      have hfz : w'.frozen? ⟨N9, 4, none⟩ = false := by have := WX.out.out.fr 4; simp only [World.frozen?] at this ⊢; rw [hbx]; exact this
      have hst := store_strings N9 4 _ p (n + 1) q w' hc hfz
      have hu : 1 ≤ fuel := Nat.le_trans (Nat.le_of_ble_eq_true rfl) hf
      clear hf hl hsz hp hSb hSg
      refine wpAny_last 11 _ rfl (by kernel_rfl) (by kernel_rfl) rfl (fun K hK => wp_store_slice 24 (.tmp 27) (.tmp 26) rfl rfl ⟨N9, 4, none⟩ p (n + 1) q eA eV hst hK) ?_ fuel hu
      simp only [frameOf, frameL, List.zipIdx_cons, List.zipIdx_nil, Act.put, List.setIfInBounds_toArray, List.set_cons_zero, List.set_cons_succ, Nat.zero_add, Nat.reduceAdd]
      refine hM _ _ (Met.intro (hJ _ _ ?_))
      repeat apply Exists.intro
      refine ⟨?rel, rfl⟩
      case rel => exact ⟨p, q, HX.out⟩
  case rest =>
    obtain ⟨pa, pc, hW3⟩ := hcut
    rename World => w3
    have WX := Lib.hid hW3
    have szw : N9 < w3.heap.size := hW3.out.lt
    have LIESvX := Lib.hid (LIESv.out.keep fun b o e h => hW3.low.block b (SBv.out b o e h))
    clear hW3
    go_upto_region 4 with fail
    go_cut [38] (fun _ wx => ∃ pa pc qa qc, WithAt w ⟨k0, h0, s0, la, ll, lc, ka, m.length, kc, va, m.length, vc⟩ ⟨k1, h1, s1, la1, ll1, lc1, ka1, kl1, kc1, va1, vl1, vc1⟩ N9 pa (n + 1) pc qa (n + 1) qc ((m.map fun p => Value.string p.1).take (n * 1) ++ #[Value.string key].toList) ((cellsOf xs).take (n * 6) ++ (VC.arr ⟨k1, h1, s1, la1, ll1, lc1, ka1, kl1, kc1, va1, vl1, vc1⟩).toList) wx)
    case first =>
      rename_i J9 K9 hJ hM
      obtain ⟨L, hL⟩ : ∃ L : List KnE, L = [.v (.pointer (some ⟨N9, 5, none⟩)), .v (.slice none 0 0), .v (.pointer (some ⟨w.heap.size, 5, none⟩)), .v (.slice va m.length vc), .v (.int .i64 (n : Int)), .v (sliced va 0 n vc 6), .row none (N9 + 1) 26 6 n ((cellsOf xs).take (n * 6)), .v (VC.val ⟨k1, h1, s1, la1, ll1, lc1, ka1, kl1, kc1, va1, vl1, vc1⟩), .one (VC.arr ⟨k1, h1, s1, la1, ll1, lc1, ka1, kl1, kc1, va1, vl1, vc1⟩) 26, .row (some 6) (N9 + 1) 26 6 (n + 1) (((cellsOf xs).take (n * 6)) ++ (VC.arr ⟨k1, h1, s1, la1, ll1, lc1, ka1, kl1, kc1, va1, vl1, vc1⟩).toList), .v (.pointer (some ⟨N9, 5, none⟩))] := ⟨_, rfl⟩
      have FARR : ∀ b, b ≤ N9 → ∀ k ∈ L, k.old ≠ some b := by
        intro b hb k hk
        rw [hL] at hk
        simp only [List.mem_cons, List.not_mem_nil, or_false] at hk
        rcases hk with rfl | rfl | rfl | rfl | rfl | rfl | rfl | rfl | rfl | rfl | rfl
        all_goals first | (intro e; cases e; done) | (intro e; have := (WX.out.vals.lt b e).1; omega)
      subst hL
      refine planK 12 59 [(0, 28), (1, 29), (2, 30), (3, 31), (4, 32), (5, 33), (6, 34), (7, 35), (8, 36), (9, 37), (10, 38)] [(3, (.pointer (some ⟨w.heap.size, 0, none⟩))), (5, (.pointer (some ⟨(w.heap.size + 1), 0, none⟩))), (7, (.int .i64 (n : Int))), (9, (.pointer (some ⟨N9, 0, none⟩))), (1, (.string key))] [.v (.pointer (some ⟨N9, 5, none⟩)), .v (.slice none 0 0), .v (.pointer (some ⟨w.heap.size, 5, none⟩)), .v (.slice va m.length vc), .v (.int .i64 (n : Int)), .v (sliced va 0 n vc 6), .row none (N9 + 1) 26 6 n ((cellsOf xs).take (n * 6)), .v (VC.val ⟨k1, h1, s1, la1, ll1, lc1, ka1, kl1, kc1, va1, vl1, vc1⟩), .one (VC.arr ⟨k1, h1, s1, la1, ll1, lc1, ka1, kl1, kc1, va1, vl1, vc1⟩) 26, .row (some 6) (N9 + 1) 26 6 (n + 1) (((cellsOf xs).take (n * 6)) ++ (VC.arr ⟨k1, h1, s1, la1, ll1, lc1, ka1, kl1, kc1, va1, vl1, vc1⟩).toList), .v (.pointer (some ⟨N9, 5, none⟩))] (by kernel_rfl) (by kernel_rfl) rfl ?_ (by kernel_rfl) (by rfl) (by simp) ?_ (by kernel_rfl) ?_ ?_
      · intro p hp
        simp only [List.mem_cons, List.not_mem_nil, or_false] at hp
        rcases hp with rfl | rfl | rfl | rfl | rfl <;> rfl
      · intro k hk b hb
        simp only [List.mem_cons, List.not_mem_nil, or_false] at hk
        rcases hk with rfl | rfl | rfl | rfl | rfl | rfl | rfl | rfl | rfl | rfl | rfl
        all_goals first | (cases hb; done) | (exact (WX.out.vals.lt b hb).2)
      · intro i o ho hT
        rcases i with _ | _ | _ | _ | _ | _ | _ | _ | _ | _ | _ | i
        · obtain rfl := Option.some.inj ho
          exact kn_field0 26 5 9 (by rfl) rfl rfl (by simp) (field5 _)
        · obtain rfl := Option.some.inj ho
          exact kn_load (a := ⟨N9, 5, none⟩) 23 0 28 (by rfl) rfl rfl (by simp) rfl (by kernel_rfl) WX.out.out.c5 WX.out.out.lt (FARR N9 (by omega)) (load_values _ _ _)
        · obtain rfl := Option.some.inj ho
          exact kn_field0 26 5 3 (by rfl) rfl rfl (by simp) (field5 _)
        · obtain rfl := Option.some.inj ho
          exact kn_load (a := ⟨w.heap.size, 5, none⟩) 23 2 30 (by rfl) rfl rfl (by simp) rfl (by kernel_rfl) WX.out.bc.c5 WX.out.bc.lt (FARR w.heap.size (by omega)) (load_values _ _ _)
        · obtain rfl := Option.some.inj ho
          exact kn_move 7 (by rfl) rfl rfl (by simp)
        · obtain rfl := Option.some.inj ho
          exact kn_head (len := m.length) 23 3 4 31 32 (by rfl) rfl rfl (by simp) rfl (by kernel_rfl) (by simp) rfl (by kernel_rfl) (head_values _ _ _ _ (Nat.le_trans NLv.out HCv.out))
        · obtain rfl := Option.some.inj ho
          exact kn_app0 (inf := i0) (bytes := 104) 23 1 29 (.tmp 33) (by rfl) rfl rfl (by simp) rfl (by kernel_rfl) (src_lies (cs := (cellsOf xs)) 5 33 (by rfl) (by simp) rfl (by kernel_rfl) LIESvX.out (fun b o' e hne => ⟨Nat.lt_of_lt_of_le (SBv.out b o' e hne) (by omega), FARR b (by have := SBv.out b o' e hne; omega)⟩) (fun w' h => src_head h LENv.out NLv.out HCv.out HZv.out)) Tryz.underlying23 I0.out I1.out I2.out I3.out rfl (by omega) (one_take ONEv.out) (by unfold maxLen; omega) (by omega) (by omega)
        · obtain rfl := Option.some.inj ho
          exact kn_load6 5 (by rfl) rfl rfl (by simp) WX.out.bd (FARR (w.heap.size + 1) (by omega))
        · obtain rfl := Option.some.inj ho
          exact kn_one 23 26 7 35 (by rfl) rfl rfl (by simp) rfl (by kernel_rfl) (build_val _)
        · obtain rfl := Option.some.inj ho
          exact kn_app1 (inf := i0) (bytes := 104) 23 6 34 (.tmp 36) rfl rfl (by simp) rfl (by kernel_rfl) (src_one 8 36 (by rfl) (by simp) rfl (by kernel_rfl) (by intro k hk; simp only [List.mem_cons, List.not_mem_nil, or_false] at hk; rcases hk with rfl | rfl | rfl | rfl | rfl | rfl | rfl | rfl | rfl | rfl | rfl <;> simp [KnE.eats])) Tryz.underlying23 I0.out I1.out I2.out I3.out rfl (by omega) (by exact arr_cells _) (by unfold maxLen; omega) (by omega) (by omega)
        · obtain rfl := Option.some.inj ho
          exact kn_field0 26 5 9 (by rfl) rfl rfl (by simp) (field5 _)
        · simp at hT
          omega
      · intro u S' w' hp hR fuel listed hsz hl hf
        obtain rfl := listed_eq hsz hl
        have eA := hR.1 (10, 38) (by simp); have eV := hR.1 (9, 37) (by simp)
        simp only at eA eV
        rw [planE_v hp (by rfl) (j := 10) (x := (.pointer (some ⟨N9, 5, none⟩))) rfl rfl] at eA
        obtain ⟨⟨hown, hSg⟩, hSb⟩ := hp.val 9 _ _ _ rfl rfl (fun k M φ hk => by
          rcases k with _ | _ | _ | _ | _ | _ | _ | _ | _ | _ | _ | k
          all_goals first | (cases hk; done) | (exact absurd hk (by unfold knE; simp)))
        obtain ⟨p, q, hv⟩ := row_form hown
        rw [hv] at eV hown hSg
        have hlow : Below N9 w3 w' := ⟨hp.os, hp.tape, hp.output, hp.size, fun b hb => planE_keep hp b (by omega) (FARR b (by omega))⟩
        have hkeep : ∀ b, b < w3.heap.size → some b ≠ (Value.slice none 0 0).ownBlock → w'.heap[b]? = w3.heap[b]? := fun b hb hne => planE_keep hp b hb (by
          intro k hk
          simp only [List.mem_cons, List.not_mem_nil, or_false] at hk
          rcases hk with rfl | rfl | rfl | rfl | rfl | rfl | rfl | rfl | rfl | rfl | rfl
          all_goals first | (intro e; cases e; done) | (intro e; exact hne e.symm))
        have hnew : ∀ b, (Value.slice p (n + 1) q).ownBlock = some b → w3.heap.size ≤ b ∨ (Value.slice none 0 0).ownBlock = some b := fun b e => (hSb b (hSg b e)).1.imp (fun h => h) (fun h => by cases h)
        have hbx := hkeep N9 WX.out.out.lt (fun e => by cases e)
        have HX := Lib.hid (WX.out.setV hown hkeep hnew hlow)
        have hc := (World.cell?_of_block (a := ⟨N9, 5, none⟩) hbx).trans WX.out.out.c5
        have hfz : w'.frozen? ⟨N9, 5, none⟩ = false := by have := WX.out.out.fr 5; simp only [World.frozen?] at this ⊢; rw [hbx]; exact this
        have hst := store_values N9 5 _ p (n + 1) q w' hc hfz
        have hu : 1 ≤ fuel := Nat.le_trans (Nat.le_of_ble_eq_true rfl) hf
        clear hf hl hsz hp hSb hSg
        refine wpAny_last 11 _ rfl (by kernel_rfl) (by kernel_rfl) rfl (fun K hK => wp_store_slice 23 (.tmp 38) (.tmp 37) rfl rfl ⟨N9, 5, none⟩ p (n + 1) q eA eV hst hK) ?_ fuel hu
        simp only [frameOf, frameL, List.zipIdx_cons, List.zipIdx_nil, Act.put, List.setIfInBounds_toArray, List.set_cons_zero, List.set_cons_succ, Nat.zero_add, Nat.reduceAdd]
        refine hM _ _ (Met.intro (hJ _ _ ?_))
        repeat apply Exists.intro
        refine ⟨?rel, rfl⟩
        case rel => exact ⟨_, _, p, q, HX.out⟩
    case rest =>
      obtain ⟨pa, pc, qa, qc, hW4⟩ := hcut
      rename World => w4
      have WX4 := Lib.hid hW4
      have szw4 : N9 < w4.heap.size := hW4.out.lt
      have hks := hW4.keys.lt; have hvs := hW4.vals.lt
      clear hW4 hks hvs
      have hc2 : ∃ n' : Nat, (key ∈ m.map (·.1) ∧ n' = n + 1 ∧ bm = true) ∨ (key ∉ m.map (·.1) ∧ n' = n ∧ bm = false) := by
        have := HBM.out
        by_cases hk : key ∈ m.map (·.1)
        · exact ⟨n + 1, Or.inl ⟨hk, rfl, by rw [← this]; exact among_true hk⟩⟩
        · exact ⟨n, Or.inr ⟨hk, rfl, by rw [← this]; exact among_false hk⟩⟩
      obtain ⟨n', hc2⟩ := hc2
      have hWJ : withJ m key v = m.take n ++ (key, v) :: m.drop n' ∧ n' ≤ m.length := withJ_at HR.out NLk.out (fun x hx h => by have := HP.out.2.1 x (by simpa using hx) h; simpa [Lt] using this) (fun h => by have := HP.out.2.2 (by simpa using h); simpa [Lt] using this)
        (hc2.imp (fun h => ⟨h.1, h.2.1⟩) (fun h => ⟨h.1, h.2.1⟩))
      have NTk := Lib.hid hWJ.2
      have NTv := NTk
      have HWJ := Lib.hid hWJ.1
      have hn4' : n' ≤ 400 := Nat.le_trans NTk.out hl
      have hnum : (bm = true ∧ ((n : Int) + 1 = (n' : Int))) ∨ (bm = false ∧ ((n : Int) = (n' : Int))) := hc2.imp (fun h => ⟨h.2.2, by rw [h.2.1]; rfl⟩) (fun h => ⟨h.2.2, by rw [h.2.1]⟩)
      clear hc2 hWJ HBM HP WX szw LIESkX LIESvX
      obtain ⟨ks, hks⟩ : ∃ ks, ks = (m.map fun p => Value.string p.1).take (n * 1) ++ #[Value.string key].toList := ⟨_, rfl⟩
      obtain ⟨vs, hvs⟩ : ∃ vs, vs = (cellsOf xs).take (n * 6) ++ (VC.arr ⟨k1, h1, s1, la1, ll1, lc1, ka1, kl1, kc1, va1, vl1, vc1⟩).toList := ⟨_, rfl⟩
      rw [← hks, ← hvs] at WX4
      obtain ⟨pn, hpn⟩ : ∃ pn, pn = n + 1 := ⟨_, rfl⟩
      obtain ⟨qn, hqn⟩ : ∃ qn, qn = n + 1 := ⟨_, rfl⟩
      have WX : Hid (WithAt w ⟨k0, h0, s0, la, ll, lc, ka, m.length, kc, va, m.length, vc⟩ ⟨k1, h1, s1, la1, ll1, lc1, ka1, kl1, kc1, va1, vl1, vc1⟩ N9 pa pn pc qa qn qc ks vs w4) := by rw [hpn, hqn]; exact WX4
      have szw := szw4
      have hpn4 : pn ≤ 401 := by omega
      have hqn4 : qn ≤ 401 := by omega
      have HKS := Lib.hid hks; have HVS := Lib.hid hvs; have HPN := Lib.hid hpn; have HQN := Lib.hid hqn
      have LIESkX := Lib.hid (LIESk.out.keep fun b o e h => WX.out.low.block b (SBk.out b o e h))
      clear WX4 hks hvs hpn hqn szw4
      rcases hnum with ⟨rfl, hn'⟩ | ⟨rfl, hn'⟩
      all_goals
        go_upto_region 7 with fail
        try rw [hn']
        go_cut [49] (fun _ wx => ∃ pa' pc', WithAt w ⟨k0, h0, s0, la, ll, lc, ka, m.length, kc, va, m.length, vc⟩ ⟨k1, h1, s1, la1, ll1, lc1, ka1, kl1, kc1, va1, vl1, vc1⟩ N9 pa' (pn + (m.length - n')) pc' qa qn qc (ks ++ (m.map fun p => Value.string p.1).drop (n' * 1)) vs wx)
        case first =>
          rename_i J9 K9 hJ hM
          obtain ⟨L, hL⟩ : ∃ L : List KnE, L = [.v (.pointer (some ⟨N9, 4, none⟩)), .v (.slice pa pn pc), .v (.pointer (some ⟨w.heap.size, 4, none⟩)), .v (.slice ka m.length kc), .v (.int .i64 (n' : Int)), .v (sliced ka n' m.length kc 1), .rowO (Value.slice pa pn pc).ownBlock (N9 + 1) 9 1 (pn + (m.length - n')) (ks ++ ((m.map fun p => Value.string p.1).drop (n' * 1))), .v (.pointer (some ⟨N9, 4, none⟩))] := ⟨_, rfl⟩
          have FARR : ∀ b, b ≤ N9 → ∀ k ∈ L, k.old ≠ some b := by
            intro b hb k hk
            rw [hL] at hk
            simp only [List.mem_cons, List.not_mem_nil, or_false] at hk
            rcases hk with rfl | rfl | rfl | rfl | rfl | rfl | rfl | rfl
            all_goals first | (intro e; cases e; done) | (intro e; have := (WX.out.keys.lt b e).1; omega)
          subst hL
          refine planK 9 59 [(0, 42), (1, 43), (2, 44), (3, 45), (4, 46), (5, 47), (6, 48), (7, 49)] [(3, (.pointer (some ⟨w.heap.size, 0, none⟩))), (5, (.pointer (some ⟨(w.heap.size + 1), 0, none⟩))), (7, (.int .i64 (n' : Int))), (9, (.pointer (some ⟨N9, 0, none⟩))), (1, (.string key))] [.v (.pointer (some ⟨N9, 4, none⟩)), .v (.slice pa pn pc), .v (.pointer (some ⟨w.heap.size, 4, none⟩)), .v (.slice ka m.length kc), .v (.int .i64 (n' : Int)), .v (sliced ka n' m.length kc 1), .rowO (Value.slice pa pn pc).ownBlock (N9 + 1) 9 1 (pn + (m.length - n')) (ks ++ ((m.map fun p => Value.string p.1).drop (n' * 1))), .v (.pointer (some ⟨N9, 4, none⟩))] (by kernel_rfl) (by kernel_rfl) rfl ?_ (by kernel_rfl) (by rfl) (by simp) ?_ (by kernel_rfl) ?_ ?_
          · intro p hp
            simp only [List.mem_cons, List.not_mem_nil, or_false] at hp
            rcases hp with rfl | rfl | rfl | rfl | rfl <;> rfl
          · intro k hk b hb
            simp only [List.mem_cons, List.not_mem_nil, or_false] at hk
            rcases hk with rfl | rfl | rfl | rfl | rfl | rfl | rfl | rfl
            all_goals first | (cases hb; done) | (exact (WX.out.keys.lt b hb).2)
          · intro i o ho hT
            rcases i with _ | _ | _ | _ | _ | _ | _ | _ | i
            · obtain rfl := Option.some.inj ho
              exact kn_field0 26 4 9 (by rfl) rfl rfl (by simp) (field4 _)
            · obtain rfl := Option.some.inj ho
              exact kn_load (a := ⟨N9, 4, none⟩) 24 0 42 (by rfl) rfl rfl (by simp) rfl (by kernel_rfl) WX.out.out.c4 WX.out.out.lt (FARR N9 (by omega)) (load_strings _ _ _)
            · obtain rfl := Option.some.inj ho
              exact kn_field0 26 4 3 (by rfl) rfl rfl (by simp) (field4 _)
            · obtain rfl := Option.some.inj ho
              exact kn_load (a := ⟨w.heap.size, 4, none⟩) 24 2 44 (by rfl) rfl rfl (by simp) rfl (by kernel_rfl) WX.out.bc.c4 WX.out.bc.lt (FARR w.heap.size (by omega)) (load_strings _ _ _)
            · obtain rfl := Option.some.inj ho
              exact kn_move 7 (by rfl) rfl rfl (by simp)
            · obtain rfl := Option.some.inj ho
              exact kn_tail 24 3 4 45 46 (by rfl) rfl rfl (by simp) rfl (by kernel_rfl) (by simp) rfl (by kernel_rfl) (tail_strings _ _ _ _ NTk.out)
            · obtain rfl := Option.some.inj ho
              exact kn_appO (inf := j0) (bytes := 16) 24 1 43 (.tmp 47) (by rfl) rfl rfl (by simp) rfl (by kernel_rfl) (src_lies (cs := (m.map fun p => Value.string p.1)) 5 47 (by rfl) (by simp) rfl (by kernel_rfl) LIESkX.out (fun b o' e hne => ⟨Nat.lt_of_lt_of_le (SBk.out b o' e hne) (by omega), FARR b (by have := SBk.out b o' e hne; omega)⟩) (fun w' h => src_tail h LENk.out NTk.out HCk.out HZk.out)) Tryz.underlying24 J0.out J1.out J2.out J3.out rfl (by omega) WX.out.keys (one_drop ONEk.out) (by unfold maxLen; omega) (by omega) (by omega)
            · obtain rfl := Option.some.inj ho
              exact kn_field0 26 4 9 (by rfl) rfl rfl (by simp) (field4 _)
            · simp at hT
              omega
          · intro u S' w' hp hR fuel listed hsz hl hf
            obtain rfl := listed_eq hsz hl
            have eA := hR.1 (7, 49) (by simp); have eV := hR.1 (6, 48) (by simp)
            simp only at eA eV
            rw [planE_v hp (by rfl) (j := 7) (x := (.pointer (some ⟨N9, 4, none⟩))) rfl rfl] at eA
            obtain ⟨⟨hown, hSg⟩, hSb⟩ := hp.val 6 _ _ _ rfl rfl (fun k M φ hk => by
              rcases k with _ | _ | _ | _ | _ | _ | _ | _ | k
              all_goals first | (cases hk; done) | (exact absurd hk (by unfold knE; simp)))
            obtain ⟨p, q, hv⟩ := row_form hown
            rw [hv] at eV hown hSg
            have hlow : Below N9 w4 w' := ⟨hp.os, hp.tape, hp.output, hp.size, fun b hb => planE_keep hp b (by omega) (FARR b (by omega))⟩
            have hkeep : ∀ b, b < w4.heap.size → some b ≠ (Value.slice pa pn pc).ownBlock → w'.heap[b]? = w4.heap[b]? := fun b hb hne => planE_keep hp b hb (by
              intro k hk
              simp only [List.mem_cons, List.not_mem_nil, or_false] at hk
              rcases hk with rfl | rfl | rfl | rfl | rfl | rfl | rfl | rfl
              all_goals first | (intro e; cases e; done) | (intro e; exact hne e.symm))
            have hnew : ∀ b, (Value.slice p (pn + (m.length - n')) q).ownBlock = some b → w4.heap.size ≤ b ∨ (Value.slice pa pn pc).ownBlock = some b := fun b e => (hSb b (hSg b e)).1.imp (fun h => h) (fun h => h.symm)
            have hbx := hkeep N9 WX.out.out.lt (fun e => by have := (WX.out.keys.lt N9 e.symm).1; omega)
            have HX := Lib.hid (WX.out.setK hown hkeep hnew hlow)
            have hc := (World.cell?_of_block (a := ⟨N9, 4, none⟩) hbx).trans WX.out.out.c4
            have hfz : w'.frozen? ⟨N9, 4, none⟩ = false := by have := WX.out.out.fr 4; simp only [World.frozen?] at this ⊢; rw [hbx]; exact this
            have hst := store_strings N9 4 _ p (pn + (m.length - n')) q w' hc hfz
            have hu : 1 ≤ fuel := Nat.le_trans (Nat.le_of_ble_eq_true rfl) hf
            clear hf hl hsz hp hSb hSg
            refine wpAny_last 8 _ rfl (by kernel_rfl) (by kernel_rfl) rfl (fun K hK => wp_store_slice 24 (.tmp 49) (.tmp 48) rfl rfl ⟨N9, 4, none⟩ p (pn + (m.length - n')) q eA eV hst hK) ?_ fuel hu
            simp only [frameOf, frameL, List.zipIdx_cons, List.zipIdx_nil, Act.put, List.setIfInBounds_toArray, List.set_cons_zero, List.set_cons_succ, Nat.zero_add, Nat.reduceAdd]
            refine hM _ _ (Met.intro (hJ _ _ ?_))
            repeat apply Exists.intro
            refine ⟨?rel, rfl⟩
            case rel => exact ⟨p, q, HX.out⟩
        case rest =>
          obtain ⟨ra, rc, hW5⟩ := hcut
          rename World => w5
          have WX5 := Lib.hid hW5
          have szw5 : N9 < w5.heap.size := hW5.out.lt
          clear hW5 WX szw LIESkX
          obtain ⟨ks2, hks2⟩ : ∃ ks2, ks2 = ks ++ (m.map fun p => Value.string p.1).drop (n' * 1) := ⟨_, rfl⟩
          obtain ⟨rn, hrn⟩ : ∃ rn, rn = pn + (m.length - n') := ⟨_, rfl⟩
          rw [← hks2, ← hrn] at WX5
          have WX : Hid (WithAt w ⟨k0, h0, s0, la, ll, lc, ka, m.length, kc, va, m.length, vc⟩ ⟨k1, h1, s1, la1, ll1, lc1, ka1, kl1, kc1, va1, vl1, vc1⟩ N9 ra rn rc qa qn qc ks2 vs w5) := WX5
          have szw := szw5
          have LIESvX := Lib.hid (LIESv.out.keep fun b o e h => WX.out.low.block b (SBv.out b o e h))
          have HKS2 := Lib.hid hks2; have HRN := Lib.hid hrn
          clear WX5 szw5 hks2 hrn
          go_upto_region 8 with fail
          go_cut [57] (fun _ wx => ∃ qa' qc', WithAt w ⟨k0, h0, s0, la, ll, lc, ka, m.length, kc, va, m.length, vc⟩ ⟨k1, h1, s1, la1, ll1, lc1, ka1, kl1, kc1, va1, vl1, vc1⟩ N9 ra rn rc qa' (qn + (m.length - n')) qc' ks2 (vs ++ (cellsOf xs).drop (n' * 6)) wx)
          case first =>
            rename_i J9 K9 hJ hM
            obtain ⟨L, hL⟩ : ∃ L : List KnE, L = [.v (.pointer (some ⟨N9, 5, none⟩)), .v (.slice qa qn qc), .v (.pointer (some ⟨w.heap.size, 5, none⟩)), .v (.slice va m.length vc), .v (.int .i64 (n' : Int)), .v (sliced va n' m.length vc 6), .rowO (Value.slice qa qn qc).ownBlock (N9 + 1) 26 6 (qn + (m.length - n')) (vs ++ ((cellsOf xs).drop (n' * 6))), .v (.pointer (some ⟨N9, 5, none⟩))] := ⟨_, rfl⟩
            have FARR : ∀ b, b ≤ N9 → ∀ k ∈ L, k.old ≠ some b := by
              intro b hb k hk
              rw [hL] at hk
              simp only [List.mem_cons, List.not_mem_nil, or_false] at hk
              rcases hk with rfl | rfl | rfl | rfl | rfl | rfl | rfl | rfl
              all_goals first | (intro e; cases e; done) | (intro e; have := (WX.out.vals.lt b e).1; omega)
            subst hL
            refine planK 9 59 [(0, 50), (1, 51), (2, 52), (3, 53), (4, 54), (5, 55), (6, 56), (7, 57)] [(3, (.pointer (some ⟨w.heap.size, 0, none⟩))), (5, (.pointer (some ⟨(w.heap.size + 1), 0, none⟩))), (7, (.int .i64 (n' : Int))), (9, (.pointer (some ⟨N9, 0, none⟩))), (1, (.string key))] [.v (.pointer (some ⟨N9, 5, none⟩)), .v (.slice qa qn qc), .v (.pointer (some ⟨w.heap.size, 5, none⟩)), .v (.slice va m.length vc), .v (.int .i64 (n' : Int)), .v (sliced va n' m.length vc 6), .rowO (Value.slice qa qn qc).ownBlock (N9 + 1) 26 6 (qn + (m.length - n')) (vs ++ ((cellsOf xs).drop (n' * 6))), .v (.pointer (some ⟨N9, 5, none⟩))] (by kernel_rfl) (by kernel_rfl) rfl ?_ (by kernel_rfl) (by rfl) (by simp) ?_ (by kernel_rfl) ?_ ?_
            · intro p hp
              simp only [List.mem_cons, List.not_mem_nil, or_false] at hp
              rcases hp with rfl | rfl | rfl | rfl | rfl <;> rfl
            · intro k hk b hb
              simp only [List.mem_cons, List.not_mem_nil, or_false] at hk
              rcases hk with rfl | rfl | rfl | rfl | rfl | rfl | rfl | rfl
              all_goals first | (cases hb; done) | (exact (WX.out.vals.lt b hb).2)
            · intro i o ho hT
              rcases i with _ | _ | _ | _ | _ | _ | _ | _ | i
              · obtain rfl := Option.some.inj ho
                exact kn_field0 26 5 9 (by rfl) rfl rfl (by simp) (field5 _)
              · obtain rfl := Option.some.inj ho
                exact kn_load (a := ⟨N9, 5, none⟩) 23 0 50 (by rfl) rfl rfl (by simp) rfl (by kernel_rfl) WX.out.out.c5 WX.out.out.lt (FARR N9 (by omega)) (load_values _ _ _)
              · obtain rfl := Option.some.inj ho
                exact kn_field0 26 5 3 (by rfl) rfl rfl (by simp) (field5 _)
              · obtain rfl := Option.some.inj ho
                exact kn_load (a := ⟨w.heap.size, 5, none⟩) 23 2 52 (by rfl) rfl rfl (by simp) rfl (by kernel_rfl) WX.out.bc.c5 WX.out.bc.lt (FARR w.heap.size (by omega)) (load_values _ _ _)
              · obtain rfl := Option.some.inj ho
                exact kn_move 7 (by rfl) rfl rfl (by simp)
              · obtain rfl := Option.some.inj ho
                exact kn_tail 23 3 4 53 54 (by rfl) rfl rfl (by simp) rfl (by kernel_rfl) (by simp) rfl (by kernel_rfl) (tail_values _ _ _ _ NTv.out)
              · obtain rfl := Option.some.inj ho
                exact kn_appO (inf := i0) (bytes := 104) 23 1 51 (.tmp 55) (by rfl) rfl rfl (by simp) rfl (by kernel_rfl) (src_lies (cs := (cellsOf xs)) 5 55 (by rfl) (by simp) rfl (by kernel_rfl) LIESvX.out (fun b o' e hne => ⟨Nat.lt_of_lt_of_le (SBv.out b o' e hne) (by omega), FARR b (by have := SBv.out b o' e hne; omega)⟩) (fun w' h => src_tail h LENv.out NTv.out HCv.out HZv.out)) Tryz.underlying23 I0.out I1.out I2.out I3.out rfl (by omega) WX.out.vals (one_drop ONEv.out) (by unfold maxLen; omega) (by omega) (by omega)
              · obtain rfl := Option.some.inj ho
                exact kn_field0 26 5 9 (by rfl) rfl rfl (by simp) (field5 _)
              · simp at hT
                omega
            · intro u S' w' hp hR fuel listed hsz hl hf
              obtain rfl := listed_eq hsz hl
              have eA := hR.1 (7, 57) (by simp); have eV := hR.1 (6, 56) (by simp)
              simp only at eA eV
              rw [planE_v hp (by rfl) (j := 7) (x := (.pointer (some ⟨N9, 5, none⟩))) rfl rfl] at eA
              obtain ⟨⟨hown, hSg⟩, hSb⟩ := hp.val 6 _ _ _ rfl rfl (fun k M φ hk => by
                rcases k with _ | _ | _ | _ | _ | _ | _ | _ | k
                all_goals first | (cases hk; done) | (exact absurd hk (by unfold knE; simp)))
              obtain ⟨p, q, hv⟩ := row_form hown
              rw [hv] at eV hown hSg
              have hlow : Below N9 w5 w' := ⟨hp.os, hp.tape, hp.output, hp.size, fun b hb => planE_keep hp b (by omega) (FARR b (by omega))⟩
              have hkeep : ∀ b, b < w5.heap.size → some b ≠ (Value.slice qa qn qc).ownBlock → w'.heap[b]? = w5.heap[b]? := fun b hb hne => planE_keep hp b hb (by
                intro k hk
                simp only [List.mem_cons, List.not_mem_nil, or_false] at hk
                rcases hk with rfl | rfl | rfl | rfl | rfl | rfl | rfl | rfl
                all_goals first | (intro e; cases e; done) | (intro e; exact hne e.symm))
              have hnew : ∀ b, (Value.slice p (qn + (m.length - n')) q).ownBlock = some b → w5.heap.size ≤ b ∨ (Value.slice qa qn qc).ownBlock = some b := fun b e => (hSb b (hSg b e)).1.imp (fun h => h) (fun h => h.symm)
              have hbx := hkeep N9 WX.out.out.lt (fun e => by have := (WX.out.vals.lt N9 e.symm).1; omega)
              have HX := Lib.hid (WX.out.setV hown hkeep hnew hlow)
              have hc := (World.cell?_of_block (a := ⟨N9, 5, none⟩) hbx).trans WX.out.out.c5
              have hfz : w'.frozen? ⟨N9, 5, none⟩ = false := by have := WX.out.out.fr 5; simp only [World.frozen?] at this ⊢; rw [hbx]; exact this
              have hst := store_values N9 5 _ p (qn + (m.length - n')) q w' hc hfz
              have hu : 1 ≤ fuel := Nat.le_trans (Nat.le_of_ble_eq_true rfl) hf
              clear hf hl hsz hp hSb hSg
              refine wpAny_last 8 _ rfl (by kernel_rfl) (by kernel_rfl) rfl (fun K hK => wp_store_slice 23 (.tmp 57) (.tmp 56) rfl rfl ⟨N9, 5, none⟩ p (qn + (m.length - n')) q eA eV hst hK) ?_ fuel hu
              simp only [frameOf, frameL, List.zipIdx_cons, List.zipIdx_nil, Act.put, List.setIfInBounds_toArray, List.set_cons_zero, List.set_cons_succ, Nat.zero_add, Nat.reduceAdd]
              refine hM _ _ (Met.intro (hJ _ _ ?_))
              repeat apply Exists.intro
              refine ⟨?rel, rfl⟩
              case rel => exact ⟨p, q, HX.out⟩
          case rest =>
            obtain ⟨ta, tc, hW6⟩ := hcut
            rename World => w6
            have WZ := Lib.hid hW6
            have ob := hW6.out; have br := hW6.br; have szn := hW6.hN; have lto := hW6.out.lt
            have q0 := ob.c0; have q1 := ob.c1; have q2 := ob.c2; have q3 := ob.c3; have q4 := ob.c4; have q5 := ob.c5
            have r0 := br.c0; have r1 := br.c1; have r2 := br.c2; have r3 := br.c3; have r4 := br.c4; have r5 := br.c5; have rf := br.fr; have rlt := br.lt
            unfold VC.nil at r0 r1 r2 r3 r4 r5
            simp only at r0 r1 r2 r3 r4 r5
            clear hW6 ob br WX szw LIESvX
            have SZN := Lib.hid szn; have SZ2 := Lib.hid szN
            clear hn'
            clear hn4 hn4' hpn4 hqn4 szn szN hl
            go_wp2_with fail
            have szn := SZN.out; have szN := SZ2.out
            refine bodyPost_ret (v := .agg #[.int .i64 6, .int .i64 0, .string ByteArray.empty, .slice none 0 0, .slice ra rn rc, .slice ta (qn + (m.length - n')) tc]) (by simp [results, Tryz.results12, go_sem, r0, r1, r2, r3, r4, r5]) rfl ?_
            have hz := WZ.out
            have ek : ks2 = (withJ m key v).map fun p => Value.string p.1 := by
              rw [HKS2.out, HKS.out, HWJ.out]
              simp [List.map_take, List.map_drop]
            have ev : vs ++ (cellsOf xs).drop (n' * 6) = cellsOf (xs.take n ++ ⟨k1, h1, s1, la1, ll1, lc1, ka1, kl1, kc1, va1, vl1, vc1⟩ :: xs.drop n') := by
              rw [HVS.out, (cellsOf_split xs (n := n) (by rw [HXL.out]; exact NLk.out)).1, (cellsOf_split xs (n := n') (by rw [HXL.out]; exact NTk.out)).2, cellsOf_append]
              rw [show ⟨k1, h1, s1, la1, ll1, lc1, ka1, kl1, kc1, va1, vl1, vc1⟩ :: xs.drop n' = [⟨k1, h1, s1, la1, ll1, lc1, ka1, kl1, kc1, va1, vl1, vc1⟩] ++ xs.drop n' from rfl, cellsOf_append, cellsOf_one, List.append_assoc]
            have hS6 : Same S w w6 := fun b hb => hz.low.block b (HS.out b hb)
            obtain ⟨hlen, hrd⟩ := with_rd (w := w6) (S := S) (key := key) (v := v) (d := ⟨k1, h1, s1, la1, ll1, lc1, ka1, kl1, kc1, va1, vl1, vc1⟩) (n := n) (n' := n') HXL.out (fun i hi hx => (HXV.out i hi hx).go hS6 (fun _ h => h)) (HD.out.go hS6 (fun _ h => h)) NLk.out NTk.out
            have hK := hz.keys
            have hVv := hz.vals
            rw [ek] at hK
            rw [ev] at hVv
            have hrd' : ∀ i (_ : i < (withJ m key v).length) (h : i < (xs.take n ++ ⟨k1, h1, s1, la1, ll1, lc1, ka1, kl1, kc1, va1, vl1, vc1⟩ :: xs.drop n').length), VR w6 S (withJ m key v)[i].2 (xs.take n ++ ⟨k1, h1, s1, la1, ll1, lc1, ka1, kl1, kc1, va1, vl1, vc1⟩ :: xs.drop n')[i] := by
              rw [HWJ.out]; exact hrd
            have hfin := obj_read hK hVv (by rw [HWJ.out]; exact hlen) hrd'
            exact spec_end (w6 := w6) (N := w.heap.size + 1 + 1) (lo := N9 + 1) ⟨6, 0, ByteArray.empty, none, 0, 0, ra, rn, rc, ta, qn + (m.length - n'), tc⟩ hz.low (by omega) HS.out (by omega) hfin
end Go.Proofs.YtnaijgdffbfapaaGreatDoor

namespace Go.Proofs.YtnaijgdffbfapaaGreatDoor
open Go.RowKit

theorem box_stored {w : World} {N : Nat} {c : VC} (h : Box w N c) (y : VC) : Box (valStored w N y) N y := by
  have h0 : Box (w.setCell ⟨N, 0, none⟩ (.int .i64 y.k)) N {c with k := y.k} := heap_setCell_same w ⟨N, 0, none⟩ _ h rfl
  have h1 : Box ((w.setCell ⟨N, 0, none⟩ (.int .i64 y.k)).setCell ⟨N, 1, none⟩ (.int .i64 y.h)) N {c with k := y.k, h := y.h} := heap_setCell_same _ ⟨N, 1, none⟩ _ h0 rfl
  have h2 : Box (((w.setCell ⟨N, 0, none⟩ (.int .i64 y.k)).setCell ⟨N, 1, none⟩ (.int .i64 y.h)).setCell ⟨N, 2, none⟩ (.string y.s)) N {c with k := y.k, h := y.h, s := y.s} := heap_setCell_same _ ⟨N, 2, none⟩ _ h1 rfl
  exact ((h2.set3 y.la y.ll y.lc).set4 y.ka y.kl y.kc).set5 y.va y.vl y.vc


set_option maxRecDepth 100000 in
theorem SGet_any {S : Nat → Prop} (m : List (ByteArray × J)) (c : VC) (s : ByteArray) (z : J) {w : World} (hz : (s, z) ∈ m) (hV : VR w S (.obj m) c) (hj : JOK (.obj m)) (hr : Rises m) (hS : ∀ b, S b → b < w.heap.size) :
    Calls Tryz.prog 13 #[c.val, .string s] w fun e w' => ∃ x, e = .returned x.val ∧ VR w' S z x ∧ Below w.heap.size w w' := by
  obtain ⟨W1, hW1⟩ : ∃ W1, W1 = (w.alloc (.cells c.arr 26)).alloc (.cells VC.nil.arr 26) := ⟨_, rfl⟩
  have hb0 : Below w.heap.size w W1 := by rw [hW1]; exact ((Below.refl _ _).alloc (Nat.le_refl _) _).alloc (by simp) _
  have hs1 : W1.heap.size = w.heap.size + 2 := by rw [hW1]; simp
  have hx0 : Box W1 w.heap.size c := by rw [hW1]; exact (box_alloc w c).below ((Below.refl (w.heap.size + 1) _).alloc (by simp) _) (by omega)
  have hx1 : Box W1 (w.heap.size + 1) VC.nil := by
    rw [hW1]
    have := box_alloc (w.alloc (.cells c.arr 26)) VC.nil
    simp only [World.size_alloc] at this
    exact this
  have hV1 := hV.go (w' := W1) (S' := S) (fun b h => hb0.block b (hS b h)) (fun _ h => h)
  have hh := hV.head
  have hvl := hh.vl
  rw [VR] at hV1
  rw [JOK] at hj
  have P := Lib.hid (place_any (S := S) (m.map fun x : ByteArray × J => x.1) c s (w := W1) (by simp; exact hj.2.2.2.1) (fun b h => by have := hS b h; omega) (by have := hh.kl; simpa [J.ents] using this)
    (fun i hi => by
      have hi' : i < m.length := by simpa using hi
      obtain ⟨b, o, h1, h2, h3⟩ := hV1.2.2.1 i hi'
      exact ⟨b, o, h1, h2, by simpa [J.ents] using h3⟩)
    (fun i hi => by simpa [J.ents] using hj.2.2.2.2.2.2.1 i (by simpa [J.ents] using hi)))
  obtain ⟨i, hi, ei⟩ := List.getElem_of_mem hz
  have VV := Lib.hid hV1.2.2.2
  have HB0 := Lib.hid hb0; have HX0 := Lib.hid hx0; have HX1 := Lib.hid hx1; have HS := Lib.hid hS; have HR := Lib.hid hr; have EI := Lib.hid ei
  have AM := Lib.hid (among_true (List.mem_map.2 ⟨_, hz, rfl⟩ : s ∈ m.map fun x : ByteArray × J => x.1))
  clear hb0 hV1 hh hj hV hS hx0 hx1 hr hz ei
  obtain ⟨k0, h0, s0, la, ll, lc, ka, kl, kc, va, vl, vc⟩ := c
  simp only at hvl
  subst hvl
  unfold VC.val VC.arr VC.nil at *
  go_enter Tryz.func13, Tryz.ntmps13
  go_wp2_with fail
  rw [show ByteArray.mk #[] = ByteArray.empty from rfl, ← hW1]
  refine P.out.mono ?_
  rintro e w1 ⟨n, rfl, hpl, hb1⟩
  have hni : n = i := by
    obtain ⟨h1, h2, h3⟩ := hpl
    have e1 : (m.map fun x : ByteArray × J => x.1)[i]'(by simpa using hi) = s := by simp [EI.out]
    rcases Nat.lt_trichotomy n i with h | h | h
    · have hn : n < m.length := by omega
      have h4 := h3 (by simpa using hn)
      have h5 := HR.out.get hi h
      unfold Lt at h5
      simp only [EI.out] at h5
      simp only [List.getElem_map] at h4
      rw [h4] at h5
      cases h5
    · exact h
    · have h4 := h2 i (by simpa using hi) h
      rw [e1, less_irrefl] at h4
      cases h4
  subst hni
  rw [AM.out]
  have y0 := HX0.out.below hb1 (by omega)
  have y1 := HX1.out.below hb1 (by omega)
  obtain ⟨b, o, x, rfl, hbS, h6, hvx⟩ := VV.out n hi
  have h6' := h6.below hb1 (by have := HS.out b hbS; omega)
  have g0 := h6'.c0; have g1 := h6'.c1; have g2 := h6'.c2; have g3 := h6'.c3; have g4 := h6'.c4; have g5 := h6'.c5
  have p5 := y0.c5
  have q0 := y1.c0; have q1 := y1.c1; have q2 := y1.c2; have q3 := y1.c3; have q4 := y1.c4; have q5 := y1.c5; have qf := y1.fr; have ql := y1.lt
  have Y1 := Lib.hid y1; have HB1 := Lib.hid hb1; have HVX := Lib.hid hvx
  clear hpl hb1 P h6 h6' hvx y0 y1 hW1
  obtain ⟨k9, h9, s9, la9, ll9, lc9, ka9, kl9, kc9, va9, vl9, vc9⟩ := x
  simp only at g0 g1 g2 g3 g4 g5 p5 q0 q1 q2 q3 q4 q5
  go_wp2_with fail
  have BV := (box_stored Y1.out ⟨k9, h9, s9, la9, ll9, lc9, ka9, kl9, kc9, va9, vl9, vc9⟩)
  have r0 := BV.c0; have r1 := BV.c1; have r2 := BV.c2; have r3 := BV.c3; have r4 := BV.c4; have r5 := BV.c5
  simp only at r0 r1 r2 r3 r4 r5
  show bodyPost _ _ _ _ _ (valStored w1 (w.heap.size + 1) ⟨k9, h9, s9, la9, ll9, lc9, ka9, kl9, kc9, va9, vl9, vc9⟩)
  refine bodyPost_ret (v := VC.val ⟨k9, h9, s9, la9, ll9, lc9, ka9, kl9, kc9, va9, vl9, vc9⟩) (by unfold VC.val VC.arr; simp [results, Tryz.results13, go_sem, r0, r1, r2, r3, r4, r5]) rfl ?_
  have hb1 := HB1.out
  refine ⟨⟨k9, h9, s9, la9, ll9, lc9, ka9, kl9, kc9, va9, vl9, vc9⟩, rfl, ?_, valStored_below (HB0.out.trans (hb1.mono (by omega))) (by omega)⟩
  have hi' : n < m.length := hi
  have hz : (m[n]'hi').2 = z := congrArg Prod.snd EI.out
  have hvx : VR W1 S (m[n]'hi').2 ⟨k9, h9, s9, la9, ll9, lc9, ka9, kl9, kc9, va9, vl9, vc9⟩ := HVX.out
  rw [hz] at hvx
  exact hvx.go (fun b hb => (valStored_block (by have := HS.out b hb; omega)).trans (hb1.block b (by have := HS.out b hb; omega))) (fun _ h => h)
end Go.Proofs.YtnaijgdffbfapaaGreatDoor

namespace Go.Proofs.YtnaijgdffbfapaaGreatDoor
open Go.RowKit

theorem setRow_below {B N : Nat} {a w : World} {cs : Array Value} (h : Below B a w) (hB : B ≤ N) : Below B a (w.setRow N cs) := ⟨h.os, h.tape, h.output, by rw [size_setRow]; exact h.size, fun b hb => (setRow_other w N b cs (by omega)).trans (h.block b hb)⟩
theorem Box.row {w : World} {N : Nat} {c : VC} (x : VC) (h : Box w N c) : Box (w.setRow N x.arr) N x := setRow_heap w N c.arr x.arr 26 (0, 0) h

theorem field3 (N : Nat) (w : World) : (Instr.fieldAt 26 (.pointer (some ⟨N, 0, none⟩)) 3).run Tryz.prog w = .ok (.pointer (some ⟨N, 3, none⟩)) w := by
  go_simp
theorem arr_one (c : VC) : c.arr.all (·.oneCell') = true := by simp [VC.arr, Value.oneCell']

/-- An array read off a row that a call owns. -/
theorem arr_read {w : World} {lo : Nat} {S : Nat → Prop} {l : List J} {ys : List VC} {la : Option Addr} {ll lc : Nat} (hv : w.ownsRow lo 26 6 (.slice la ll lc) ll (cellsOf ys))
    (hy : ys.length = l.length) (rd : ∀ i (_ : i < l.length) (h : i < ys.length), VR w S l[i] ys[i]) : VR w (fun b => S b ∨ New lo w b) (.arr l) ⟨5, 0, ByteArray.empty, la, ll, lc, none, 0, 0, none, 0, 0⟩ := by
  have hll : ll = l.length := by have := hv.1; rw [cellsOf_length] at this; omega
  rw [VR]
  refine ⟨⟨rfl, rfl, rfl, hll, rfl, rfl, own_cap hv, Nat.le_refl _, Nat.le_refl _, own_none hv, fun _ => rfl, fun _ => rfl⟩, fun i hi => ?_, fun i hi => ?_, fun i hi => ?_⟩
  · have hi' : i < l.length := hi
    have hx' : i < ys.length := by omega
    obtain ⟨g, cap', e, hg, hlt⟩ := hv.form (by omega)
    cases e
    have h6 := row_at6 hv (g := g) rfl hx'
    exact ⟨g, 0, ys[i], rfl, Or.inr ⟨hg, hlt⟩, by simpa using h6, (rd i hi' hx').mono (fun b hb => Or.inl hb)⟩
  · simp [J.ents] at hi
  · simp [J.ents] at hi

/-- The elements of an array as a row of cells. -/
theorem vr_arr {w : World} {S : Nat → Prop} {l : List J} {c : VC} (h : VR w S (.arr l) c) :
    ∃ xs : List VC, xs.length = l.length ∧ (∀ i (_ : i < l.length) (hx : i < xs.length), VR w S l[i] xs[i]) ∧ Lies w c.la (cellsOf xs) ∧ ∀ b o, c.la = some ⟨b, o, none⟩ → l ≠ [] → S b := by
  rw [VR] at h
  obtain ⟨_, hv, _, _⟩ := h
  have hv' : ∀ i (_ : i < l.length), ∃ b o x, c.la = some ⟨b, o, none⟩ ∧ S b ∧ At6 w b (o + i * 6) x ∧ VR w S l[i] x := hv
  obtain ⟨xs, hxl, hf⟩ := choose_list l.length (fun i x => ∃ b o, c.la = some ⟨b, o, none⟩ ∧ S b ∧ At6 w b (o + i * 6) x ∧ ∀ h : i < l.length, VR w S l[i] x) (fun i h => by
    obtain ⟨b, o, x, h1, h2, h3, h4⟩ := hv' i h
    exact ⟨x, b, o, h1, h2, h3, fun _ => h4⟩)
  refine ⟨xs, hxl, fun i hi hx => ?_, fun j u hj => ?_, fun b o e hne => ?_⟩
  · obtain ⟨_, _, _, _, _, h4⟩ := hf i hx
    exact h4 hi
  · have hjl := (List.getElem?_eq_some_iff.1 hj).1
    rw [cellsOf_length] at hjl
    have hx : j / 6 < xs.length := by omega
    have hq : j % 6 < 6 := Nat.mod_lt _ (by decide)
    have ej : j / 6 * 6 + j % 6 = j := by omega
    have hu := cellsOf_get xs hx hq
    rw [ej, hj] at hu
    obtain ⟨b, o, h1, _, h3, _⟩ := hf (j / 6) hx
    refine ⟨b, o, h1, ?_⟩
    have ea : o + j = o + j / 6 * 6 + j % 6 := by omega
    rw [ea]
    generalize j % 6 = q at hu hq
    have h0 := h3.c0; have h4 := h3.c1; have h5 := h3.c2; have h6 := h3.c3; have h7 := h3.c4; have h8 := h3.c5
    unfold VC.arr at hu
    rcases q with _ | _ | _ | _ | _ | _ | q
    all_goals first | omega | (simp at hu; rw [hu]; assumption)
  · obtain ⟨p, q, rfl⟩ := List.exists_cons_of_ne_nil hne
    obtain ⟨b', o', x, h1, h2, _⟩ := hv' 0 (by simp)
    rw [e] at h1; cases h1; exact h2

theorem src_all {w : World} {a : Option Addr} {size len cap : Nat} {cs : List Value} (h : Lies w a cs) (hl : cs.length = len * size) (hc : len ≤ cap) (hz : a = none → cap = 0) : Src w size (.slice a len cap) len cs := by
  cases a with
  | none =>
    have h0 := hz rfl
    subst h0
    obtain rfl : len = 0 := by omega
    exact Or.inl ⟨rfl, rfl, List.eq_nil_of_length_eq_zero (by simpa using hl)⟩
  | some ad =>
    refine Or.inr ⟨ad, cap, rfl, hl, fun j u hj => ?_⟩
    obtain ⟨b, o, e, hcell⟩ := h j u hj
    cases e
    rw [addr_add]
    exact hcell

theorem wp_assign {P : Program} {o : Oper} {a : Act} {w : World} {K : Act → World → Prop} {Q : Exit → Act → World → Prop} (x : Operand) (v : Value) (ho : o.op = .assign x) (hx : a.eval x = v) (h : K (a.put o.dst v) w) : o.wp P a w K Q := by
  subst hx
  unfold Oper.wp execOp
  simp only [ho]
  exact h

theorem row_end {w w' : World} {S : Nat → Prop} {l : List J} {ys : List VC} {la : Option Addr} {ll lc N lo : Nat} {c : VC} (hlow : Below w.heap.size w w') (hN : w.heap.size ≤ N) (hlo : N < lo) (hS : ∀ b, S b → b < w.heap.size) (hbx : Box w' N c) (hv : w'.ownsRow lo 26 6 (.slice la ll lc) ll (cellsOf ys))
    (hy : ys.length = l.length) (rd : ∀ i (_ : i < l.length) (h : i < ys.length), VR w' S l[i] ys[i]) : ∃ x : VC, x = ⟨5, 0, ByteArray.empty, la, ll, lc, none, 0, 0, none, 0, 0⟩ ∧ Box (w'.setRow N x.arr) N x ∧ Below w.heap.size w (w'.setRow N x.arr) ∧ VR (w'.setRow N x.arr) (fun b => S b ∨ New w.heap.size (w'.setRow N x.arr) b) (.arr l) x :=
  ⟨_, rfl, hbx.row _, setRow_below hlow hN, (arr_read hv hy rd).go (fun b hb => setRow_other _ _ _ _ (by rcases hb with h | h; have := hS b h; omega; have := h.1; omega)) (fun b hb => hb.imp (fun h => h) (fun h => ⟨by have := h.1; omega, by rw [size_setRow]; exact h.2⟩))⟩
section
variable {news : List (Nat × Tmp)} {olds : List (Tmp × Value)} {L : List KnE} {w0 : World} {i : Nat} {o : Oper}
/-- The address of an element. -/
theorem kn_index {xb xo n c m : Nat} (j k : Nat) (x y : Tmp) (hm : m < n) (heat : eatB L = true) (hL : L[i]? = some (.v (.pointer (some ⟨xb, xo + m * 6, none⟩)))) (ho : o.op = .indexAddr 23 (.tmp x) (.tmp y)) (hx : (j, x) ∈ news) (hj : L[j]? = some (.v (.slice (some ⟨xb, xo, none⟩) n c))) (hw : waitsB o j = true)
    (hy : (k, y) ∈ news) (hk : L[k]? = some (.v (.int .i64 (m : Int)))) (hwy : waitsB o k = true) : StepOKE Tryz.prog news olds (knE L) w0 i o :=
  step_kn [(j, x, _), (k, y, _)] heat hL (uses2 hx hj hw hy hk hwy) fun b w e _ _ => by
    have e1 := e _ List.mem_cons_self
    have e2 := e _ (List.mem_cons_of_mem _ List.mem_cons_self)
    simp only at e1 e2
    unfold execOp
    simp only [ho, e1, e2]
    go_simp
/-- A Value that lay in a row. -/
theorem kn_loadAt {xb xo : Nat} {c : VC} (j : Nat) (x : Tmp) (heat : eatB L = true) (hL : L[i]? = some (.v (VC.val c))) (ho : o.op = .load 26 (.tmp x)) (hx : (j, x) ∈ news) (hj : L[j]? = some (.v (.pointer (some ⟨xb, xo, none⟩)))) (hw : waitsB o j = true)
    (hc : At6 w0 xb xo c) (hlt : xb < w0.heap.size) (hno : ∀ k ∈ L, k.old ≠ some xb) : StepOKE Tryz.prog news olds (knE L) w0 i o :=
  step_kn [(j, x, _)] heat hL (uses1 hx hj hw) fun b w e _ hk => by
    have e1 := e _ List.mem_cons_self
    simp only at e1
    unfold execOp
    simp only [ho, e1, Sem.run_bind, load_at6 (hc.same (hk xb hlt hno)), Sem.run_pure, Result.andThen_ok]
end

theorem info_value6 : (Tryz.prog.info? 26).map (·.size) = some 6 := by kernel_rfl
/-- The only operation that is ready. -/
theorem wpAny_head {P : Program} {ops : Array Oper} {Q : Exit → Act → World → Prop} {listed : Array Bool} {a : Act} {w : World} (n i : Nat) (oi : Oper) (hi : ops[i]? = some oi) (r1 : Region.ready .any ops listed = [i]) (gi : oi.guard = none)
    (h1 : Oper.wp P oi a w (fun a1 w1 => ∀ fuel, n ≤ fuel → wpAny P .any ops Q fuel (listed.setIfInBounds i true) a1 w1) Q) : ∀ fuel, n + 1 ≤ fuel → wpAny P .any ops Q fuel listed a w := by
  intro fuel hf
  obtain ⟨f, rfl⟩ : ∃ f, fuel = f + 1 := ⟨fuel - 1, by omega⟩
  refine wpAny_all r1 (by simp) fun x hx => ?_
  obtain rfl : x = i := by simpa using hx
  unfold wpOp
  simp only [hi, Region.wanted, gi, if_true]
  refine .inl ?_
  exact Oper.wp_mono (fun a1 w1 h => h f (by omega)) h1

theorem Lies.at6 {w : World} {a : Option Addr} {xs : List VC} (h : Lies w a (cellsOf xs)) {i : Nat} (hi : i < xs.length) : ∃ b o, a = some ⟨b, o, none⟩ ∧ At6 w b (o + i * 6) xs[i] := by
  have one : ∀ k, k < 6 → ∀ u, xs[i].arr.toList[k]? = some u → ∃ b o, a = some ⟨b, o, none⟩ ∧ w.cell? ⟨b, o + i * 6 + k, none⟩ = some u := fun k hk u hu => by
    obtain ⟨b, o, e, hc⟩ := h (i * 6 + k) u (by rw [cellsOf_get xs hi hk]; exact hu)
    exact ⟨b, o, e, by rw [Nat.add_assoc]; exact hc⟩
  obtain ⟨b, o, rfl, h0⟩ := one 0 (by omega) _ rfl
  have rest : ∀ k, k < 6 → ∀ u, xs[i].arr.toList[k]? = some u → w.cell? ⟨b, o + i * 6 + k, none⟩ = some u := fun k hk u hu => by
    obtain ⟨b', o', e, hc⟩ := one k hk u hu
    cases e
    exact hc
  exact ⟨b, o, rfl, ⟨h0, rest 1 (by omega) _ rfl, rest 2 (by omega) _ rfl, rest 3 (by omega) _ rfl, rest 4 (by omega) _ rfl, rest 5 (by omega) _ rfl⟩⟩
end Go.Proofs.YtnaijgdffbfapaaGreatDoor

namespace Go.Proofs.YtnaijgdffbfapaaGreatDoor
open Go.RowKit

/-- A spot: a path and a value. -/
structure SC where
  pa : Option Addr
  pn : Nat
  pc : Nat
  v : VC
def SC.path (s : SC) : Value := .slice s.pa s.pn s.pc
def SC.arr (s : SC) : Array Value := #[.slice s.pa s.pn s.pc, .int .i64 s.v.k, .int .i64 s.v.h, .string s.v.s, .slice s.v.la s.v.ll s.v.lc, .slice s.v.ka s.v.kl s.v.kc, .slice s.v.va s.v.vl s.v.vc]
def SC.val (s : SC) : Value := .agg s.arr
example : (Tryz.prog.info? 45).map (fun i => (i.size, i.bytes)) = some (7, 128) := by kernel_rfl
theorem load_spot {N : Nat} {s : SC} {w : World} (h : w.heap[N]? = some (.cells s.arr 45 (0, 0))) : (Instr.loadAt 45 (.pointer (some ⟨N, 0, none⟩))).run Tryz.prog w = .ok s.val w := by
  have h0 : w.cell? ⟨N, 0, none⟩ = some (.slice s.pa s.pn s.pc) := by simp [World.cell?, h, SC.arr]
  have h1 : w.cell? ⟨N, 1, none⟩ = some (.int .i64 s.v.k) := by simp [World.cell?, h, SC.arr]
  have h2 : w.cell? ⟨N, 2, none⟩ = some (.int .i64 s.v.h) := by simp [World.cell?, h, SC.arr]
  have h3 : w.cell? ⟨N, 3, none⟩ = some (.string s.v.s) := by simp [World.cell?, h, SC.arr]
  have h4 : w.cell? ⟨N, 4, none⟩ = some (.slice s.v.la s.v.ll s.v.lc) := by simp [World.cell?, h, SC.arr]
  have h5 : w.cell? ⟨N, 5, none⟩ = some (.slice s.v.ka s.v.kl s.v.kc) := by simp [World.cell?, h, SC.arr]
  have h6 : w.cell? ⟨N, 6, none⟩ = some (.slice s.v.va s.v.vl s.v.vc) := by simp [World.cell?, h, SC.arr]
  unfold SC.val SC.arr
  go_simp
theorem info_spot7 : (Tryz.prog.info? 45).map (·.size) = some 7 := by kernel_rfl
def zeroSC : Value := .agg #[.slice none 0 0, .int .i64 0, .int .i64 0, .string ByteArray.empty, .slice none 0 0, .slice none 0 0, .slice none 0 0]
theorem info_spot : (Tryz.prog.info? 45).map (fun i => (i.zero, i.size, i.bytes)) = some (some zeroSC, 7, 128) := by kernel_rfl
theorem SC.one (s : SC) : s.arr.all (·.oneCell') = true := by simp [SC.arr, Value.oneCell']
theorem SC.cells (s : SC) : ∀ u ∈ s.arr.toList, u.oneCell' = true := by
  intro u hu
  simp [SC.arr] at hu
  rcases hu with rfl | rfl | rfl | rfl | rfl | rfl | rfl <;> rfl
/-- A box that holds a spot. -/
def SBox (w : World) (N : Nat) (s : SC) : Prop := w.heap[N]? = some (.cells s.arr 45 (0, 0))
theorem SBox.lt {w : World} {N : Nat} {s : SC} (h : SBox w N s) : N < w.heap.size := by
  have := Array.getElem?_eq_some_iff.1 (show w.heap[N]? = some _ from h)
  exact this.1
theorem SBox.below {w w' : World} {N : Nat} {s : SC} {B : Nat} (h : SBox w N s) (hb : Below B w w') (hlt : N < B) : SBox w' N s := (hb.block N hlt).trans h
theorem sbox_alloc (w : World) (s : SC) : SBox (w.alloc (.cells s.arr 45)) w.heap.size s := heap_alloc_new _ _
theorem SBox.c0 {w : World} {N : Nat} {s : SC} (h : SBox w N s) : w.cell? ⟨N, 0, none⟩ = some (.slice s.pa s.pn s.pc) := by simp [World.cell?, show w.heap[N]? = _ from h, SC.arr]
theorem SBox.cs {w : World} {N : Nat} {s : SC} (h : SBox w N s) : w.cell? ⟨N, 0, none⟩ = some (.slice s.pa s.pn s.pc) ∧ w.cell? ⟨N, 1, none⟩ = some (.int .i64 s.v.k) ∧ w.cell? ⟨N, 2, none⟩ = some (.int .i64 s.v.h) ∧ w.cell? ⟨N, 3, none⟩ = some (.string s.v.s) ∧
    w.cell? ⟨N, 4, none⟩ = some (.slice s.v.la s.v.ll s.v.lc) ∧ w.cell? ⟨N, 5, none⟩ = some (.slice s.v.ka s.v.kl s.v.kc) ∧ w.cell? ⟨N, 6, none⟩ = some (.slice s.v.va s.v.vl s.v.vc) := by
  simp [World.cell?, show w.heap[N]? = _ from h, SC.arr]
theorem SBox.row {w : World} {N : Nat} {s : SC} (x : SC) (h : SBox w N s) : SBox (w.setRow N x.arr) N x := setRow_heap w N s.arr x.arr 45 (0, 0) h

theorem fieldS0 (N : Nat) (w : World) : (Instr.fieldAt 45 (.pointer (some ⟨N, 0, none⟩)) 0).run Tryz.prog w = .ok (.pointer (some ⟨N, 0, none⟩)) w := by
  go_simp
theorem wp_build_spot {o : Oper} {a : Act} {w : World} {K : Act → World → Prop} {Q : Exit → Act → World → Prop} (x y : Tmp) (s : SC) (ho : o.op = .build 45 #[(0, .tmp x), (1, .tmp y)]) (hx : a.eval (.tmp x) = .slice s.pa s.pn s.pc) (hy : a.eval (.tmp y) = s.v.val) (h : K (a.put o.dst s.val) w) : o.wp Tryz.prog a w K Q := by
  refine wp_of_run (w' := w) s.val ?_ h
  have hb : (Instr.build 45 #[(0, a.eval (.tmp x)), (1, a.eval (.tmp y))]).run Tryz.prog w = .ok s.val w := by
    rw [hx, hy]
    unfold SC.val SC.arr VC.val VC.arr
    go_simp
    try rfl
  unfold execOp
  simp only [ho, List.map_toArray, List.map_cons, List.map_nil, Sem.run_bind, hb, Sem.run_pure, Result.andThen_ok]
end Go.Proofs.YtnaijgdffbfapaaGreatDoor

namespace Go.Proofs.YtnaijgdffbfapaaGreatDoor
open Go.RowKit

def BelowPost (s : SC) (ps : List VC) (k v : VC) (w : World) (e : Ending) (w' : World) : Prop :=
  ∃ p q, e = .returned (SC.val ⟨p, s.pn + 1, q, v⟩) ∧ w'.ownsRow w.heap.size 26 6 (.slice p (s.pn + 1) q) (s.pn + 1) (cellsOf (ps ++ [k])) ∧ Below w.heap.size w w'

set_option maxRecDepth 100000 in
theorem below_any (s : SC) (ps : List VC) (k v : VC) {w : World} (hl : Lies w s.pa (cellsOf ps)) (hn : ps.length = s.pn) (h4 : s.pn ≤ 1000) (hc : s.pn ≤ s.pc) (hz : s.pa = none → s.pc = 0) (hblk : ∀ b o, s.pa = some ⟨b, o, none⟩ → cellsOf ps ≠ [] → b < w.heap.size) :
    Calls Tryz.prog 39 #[s.val, k.val, v.val] w (BelowPost s ps k v w) := by
  obtain ⟨i0, hi, hz0, hz1, hz2⟩ := info_parts info_value
  have I0 := Lib.hid hi; have I1 := Lib.hid hz0; have I2 := Lib.hid hz1; have I3 := Lib.hid hz2
  obtain ⟨W1, hW1⟩ : ∃ W1, W1 = (((w.alloc (.cells s.arr 45)).alloc (.cells k.arr 26)).alloc (.cells v.arr 26)).alloc (.cells (SC.arr ⟨none, 0, 0, VC.nil⟩) 45) := ⟨_, rfl⟩
  have hb : Below w.heap.size w W1 := by rw [hW1]; exact ((((Below.refl _ _).alloc (Nat.le_refl _) _).alloc (by simp) _).alloc (by simp; omega) _).alloc (by simp; omega) _
  have hsz : W1.heap.size = w.heap.size + 4 := by rw [hW1]; simp
  have b0 : SBox W1 w.heap.size s := by
    rw [hW1]; exact (sbox_alloc w s).below ((((Below.refl (w.heap.size + 1) _).alloc (by simp) _).alloc (by simp) _).alloc (by simp) _) (by omega)
  have b1 : Box W1 (w.heap.size + 1) k := by
    rw [hW1]
    have := box_alloc (w.alloc (.cells s.arr 45)) k
    simp only [World.size_alloc] at this
    exact this.below (((Below.refl (w.heap.size + 2) _).alloc (by simp) _).alloc (by simp) _) (by omega)
  have b2 : Box W1 (w.heap.size + 1 + 1) v := by
    rw [hW1]
    have := box_alloc ((w.alloc (.cells s.arr 45)).alloc (.cells k.arr 26)) v
    simp only [World.size_alloc] at this
    exact this.below ((Below.refl (w.heap.size + 3) _).alloc (by simp) _) (by omega)
  have b3 : SBox W1 (w.heap.size + 1 + 1 + 1) ⟨none, 0, 0, VC.nil⟩ := by
    rw [hW1]
    have := sbox_alloc (((w.alloc (.cells s.arr 45)).alloc (.cells k.arr 26)).alloc (.cells v.arr 26)) ⟨none, 0, 0, VC.nil⟩
    simp only [World.size_alloc] at this
    exact this
  have LI := Lib.hid (hl.keep fun b o e h => hb.block b (hblk b o e h))
  have HBL := Lib.hid hblk
  have HB := Lib.hid hb; have B0 := Lib.hid b0; have B1 := Lib.hid b1; have B2 := Lib.hid b2; have B3 := Lib.hid b3
  have LEN : Hid ((cellsOf ps).length = s.pn * 6) := Lib.hid (by rw [cellsOf_length, hn])
  have HC := Lib.hid hc; have HZ := Lib.hid hz
  have ONE := Lib.hid (cells_one ps)
  clear hi hz0 hz1 hz2 hl hn hc hz hblk hb b0 b1 b2 b3
  obtain ⟨pa, pn, pc, ⟨k0, h0, s0, la, ll, lc, ka, kl, kc, va, vl, vc⟩⟩ := s
  obtain ⟨k1, h1, s1, la1, ll1, lc1, ka1, kl1, kc1, va1, vl1, vc1⟩ := k
  obtain ⟨k2, h2, s2, la2, ll2, lc2, ka2, kl2, kc2, va2, vl2, vc2⟩ := v
  simp only at HBL LI LEN HC HZ h4
  unfold SC.val SC.arr VC.val VC.arr VC.nil at *
  go_enter Tryz.func39, Tryz.ntmps39
  go_wp2_with fail
  rw [show ByteArray.mk #[] = ByteArray.empty from rfl, ← hW1]
  rename_i K0 hK0
  clear hW1
  obtain ⟨L, hL⟩ : ∃ L : List KnE, L = [.v (.slice none 0 0), .v (.pointer (some ⟨w.heap.size, 0, none⟩)), .v (.slice pa pn pc), .row none w.heap.size 26 6 pn (cellsOf ps), .v (VC.val ⟨k1, h1, s1, la1, ll1, lc1, ka1, kl1, kc1, va1, vl1, vc1⟩), .one (VC.arr ⟨k1, h1, s1, la1, ll1, lc1, ka1, kl1, kc1, va1, vl1, vc1⟩) 26, .row (some 3) w.heap.size 26 6 (pn + 1) (cellsOf ps ++ (VC.arr ⟨k1, h1, s1, la1, ll1, lc1, ka1, kl1, kc1, va1, vl1, vc1⟩).toList), .v (VC.val ⟨k2, h2, s2, la2, ll2, lc2, ka2, kl2, kc2, va2, vl2, vc2⟩)] := ⟨_, rfl⟩
  have FAR : ∀ {b : Nat}, ∀ k ∈ L, k.old ≠ some b := by
    intro b k hk
    rw [hL] at hk
    simp only [List.mem_cons, List.not_mem_nil, or_false] at hk
    rcases hk with rfl | rfl | rfl | rfl | rfl | rfl | rfl | rfl <;> (intro e; cases e)
  subst hL
  refine planK 10 17 [(0, 8), (1, 9), (2, 10), (3, 11), (4, 12), (5, 13), (6, 14), (7, 15)] [(3, .pointer (some ⟨w.heap.size, 0, none⟩)), (4, .pointer (some ⟨w.heap.size + 1, 0, none⟩)), (5, .pointer (some ⟨w.heap.size + 1 + 1, 0, none⟩)), (6, .pointer (some ⟨w.heap.size + 1 + 1 + 1, 0, none⟩)), (7, .slice none 0 0)] [.v (.slice none 0 0), .v (.pointer (some ⟨w.heap.size, 0, none⟩)), .v (.slice pa pn pc), .row none w.heap.size 26 6 pn (cellsOf ps), .v (VC.val ⟨k1, h1, s1, la1, ll1, lc1, ka1, kl1, kc1, va1, vl1, vc1⟩), .one (VC.arr ⟨k1, h1, s1, la1, ll1, lc1, ka1, kl1, kc1, va1, vl1, vc1⟩) 26, .row (some 3) w.heap.size 26 6 (pn + 1) (cellsOf ps ++ (VC.arr ⟨k1, h1, s1, la1, ll1, lc1, ka1, kl1, kc1, va1, vl1, vc1⟩).toList), .v (VC.val ⟨k2, h2, s2, la2, ll2, lc2, ka2, kl2, kc2, va2, vl2, vc2⟩)] (by kernel_rfl) (by kernel_rfl) rfl ?_ (by kernel_rfl) (by rfl) (by simp) ?_ (by kernel_rfl) ?_ ?_
  · intro p hp
    simp only [List.mem_cons, List.not_mem_nil, or_false] at hp
    rcases hp with rfl | rfl | rfl | rfl | rfl <;> rfl
  · intro k hk b hb
    exact absurd hb (FAR k hk)
  · intro i o ho hT
    rcases i with _ | _ | _ | _ | _ | _ | _ | _ | i
    · obtain rfl := Option.some.inj ho
      exact kn_move 7 (by rfl) rfl rfl (by simp)
    · obtain rfl := Option.some.inj ho
      exact kn_field0 45 0 3 (by rfl) rfl rfl (by simp) (fieldS0 _)
    · obtain rfl := Option.some.inj ho
      exact kn_load (a := ⟨w.heap.size, 0, none⟩) 23 1 9 (by rfl) rfl rfl (by simp) rfl (by kernel_rfl) B0.out.c0 B0.out.lt FAR (load_values _ _ _)
    · obtain rfl := Option.some.inj ho
      exact kn_app0 (inf := i0) (bytes := 104) 23 0 8 (.tmp 10) (by rfl) rfl rfl (by simp) rfl (by kernel_rfl) (src_lies (cs := cellsOf ps) 2 10 (by rfl) (by simp) rfl (by kernel_rfl) LI.out (fun b o' e hne => ⟨by have := HBL.out b o' e hne; omega, FAR⟩) (fun w' h => src_all h LEN.out HC.out HZ.out)) Tryz.underlying23 I0.out I1.out I2.out I3.out rfl (by omega) ONE.out (by unfold maxLen; omega) (by omega) (by omega)
    · obtain rfl := Option.some.inj ho
      exact kn_load6 4 (by rfl) rfl rfl (by simp) B1.out FAR
    · obtain rfl := Option.some.inj ho
      exact kn_one 23 26 4 12 (by rfl) rfl rfl (by simp) rfl (by kernel_rfl) (build_val _)
    · obtain rfl := Option.some.inj ho
      exact kn_app1 (inf := i0) (bytes := 104) 23 3 11 (.tmp 13) rfl rfl (by simp) rfl (by kernel_rfl) (src_one 5 13 (by rfl) (by simp) rfl (by kernel_rfl) (by intro k hk; simp only [List.mem_cons, List.not_mem_nil, or_false] at hk; rcases hk with rfl | rfl | rfl | rfl | rfl | rfl | rfl | rfl <;> simp [KnE.eats])) Tryz.underlying23 I0.out I1.out I2.out I3.out rfl (by omega) (by exact arr_cells _) (by unfold maxLen; omega) (by omega) (by omega)
    · obtain rfl := Option.some.inj ho
      exact kn_load6 5 (by rfl) rfl rfl (by simp) B2.out FAR
    · simp at hT
      omega
  · intro u S' w' hp hR fuel listed hsz' hl hf
    obtain rfl := listed_eq hsz' hl
    have eV := hR.1 (6, 14) (by simp); have eC := hR.1 (7, 15) (by simp); have eP := hR.2 (6, .pointer (some ⟨w.heap.size + 1 + 1 + 1, 0, none⟩)) (by simp)
    simp only at eV eC eP
    rw [planE_v hp (by rfl) (j := 7) (x := VC.val ⟨k2, h2, s2, la2, ll2, lc2, ka2, kl2, kc2, va2, vl2, vc2⟩) rfl rfl] at eC
    obtain ⟨⟨hown, hSg⟩, hSb⟩ := hp.val 6 _ _ _ rfl rfl (fun k M φ hk => by
      rcases k with _ | _ | _ | _ | _ | _ | _ | _ | k
      all_goals first | (cases hk; done) | (exact absurd hk (by unfold knE; simp)))
    obtain ⟨p, q, hv⟩ := row_form hown
    rw [hv] at eV hown hSg
    have hkeep : ∀ b, b < W1.heap.size → w'.heap[b]? = W1.heap[b]? := fun b hb => planE_keep hp b hb FAR
    have hlow : Below W1.heap.size W1 w' := ⟨hp.os, hp.tape, hp.output, hp.size, hkeep⟩
    have hbx := B3.out.below hlow B3.out.lt
    have hge : ∀ g, (Value.slice p (pn + 1) q).ownBlock = some g → W1.heap.size ≤ g := fun g hg => (hSb g (hSg g hg)).1.elim (fun h => h) (fun h => by cases h)
    have HB2 := Lib.hid (setRow_below (N := w.heap.size + 1 + 1 + 1) (cs := SC.arr ⟨p, pn + 1, q, ⟨k2, h2, s2, la2, ll2, lc2, ka2, kl2, kc2, va2, vl2, vc2⟩⟩) (HB.out.trans (hlow.mono (by omega))) (by omega))
    have hown3 := row_same (w' := w'.setRow (w.heap.size + 1 + 1 + 1) (SC.arr ⟨p, pn + 1, q, ⟨k2, h2, s2, la2, ll2, lc2, ka2, kl2, kc2, va2, vl2, vc2⟩⟩)) hown (fun g hg => setRow_other _ _ _ _ (by have := hge g hg; omega))
    have OW := Lib.hid hown3
    have hbx2 := hbx.row ⟨p, pn + 1, q, ⟨k2, h2, s2, la2, ll2, lc2, ka2, kl2, kc2, va2, vl2, vc2⟩⟩
    have r0 := hbx2.c0
    have R := Lib.hid hbx2
    have hu : 2 ≤ fuel := Nat.le_trans (Nat.le_of_ble_eq_true rfl) hf
    clear hf hl hsz' hSb hSg hown hown3 hge hlow hkeep hp hbx2
    refine wpAny_two 8 9 _ _ rfl rfl (by kernel_rfl) (by kernel_rfl) (by kernel_rfl) rfl rfl (fun K hK => wp_build_spot 14 15 ⟨p, pn + 1, q, ⟨k2, h2, s2, la2, ll2, lc2, ka2, kl2, kc2, va2, vl2, vc2⟩⟩ rfl eV eC hK) (fun K hK => wp_store_row 45 (.tmp 6) (.tmp 16) rfl (w.heap.size + 1 + 1 + 1) (SC.arr ⟨p, pn + 1, q, ⟨k2, h2, s2, la2, ll2, lc2, ka2, kl2, kc2, va2, vl2, vc2⟩⟩) ((Act.eval_put (fun d hd e => by cases hd; cases e)).trans eP) (eval_put_self (by rw [frameOf_size]; exact (by decide : 16 < 17))) 45 _ hbx info_spot7 rfl (SC.one _) hK) ?_ fuel hu
    simp only [frameOf, frameL, List.zipIdx_cons, List.zipIdx_nil, Act.put, List.setIfInBounds_toArray, List.set_cons_zero, List.set_cons_succ, Nat.zero_add, Nat.reduceAdd]
    refine hK0 _ _ ?_
    clear hK0
    have r := R.out
    obtain ⟨g0, g1, g2, g3, g4, g5, g6⟩ := SBox.cs r
    generalize w'.setRow (w.heap.size + 1 + 1 + 1) (SC.arr ⟨p, pn + 1, q, ⟨k2, h2, s2, la2, ll2, lc2, ka2, kl2, kc2, va2, vl2, vc2⟩⟩) = W9 at *
    go_wp2_with fail
    refine bodyPost_ret (v := SC.val ⟨p, pn + 1, q, ⟨k2, h2, s2, la2, ll2, lc2, ka2, kl2, kc2, va2, vl2, vc2⟩⟩) (by unfold SC.val SC.arr; simp [results, Tryz.results39, go_sem, g0, g1, g2, g3, g4, g5, g6]) rfl ?_
    exact ⟨p, q, rfl, by rw [cellsOf_append, cellsOf_one]; exact OW.out, HB2.out⟩
end Go.Proofs.YtnaijgdffbfapaaGreatDoor

namespace Go.Proofs.YtnaijgdffbfapaaGreatDoor
open Go.RowKit

def stpC : Stp → VC | .idx i => nVC (2 * (i : Int)) | .key s => strVC s
def keysS : J → List Stp
  | .arr l => (List.range l.length).map Stp.idx
  | .obj m => m.map fun x => .key x.1
  | _ => []
theorem kvc_steps (j : J) : kvc j = (keysS j).map stpC := by
  cases j <;> simp [kvc, keysS, J.list, J.ents, stpC, Function.comp_def]
theorem keysS_len (j : J) : (keysS j).length = (valsJ j).length := by cases j <;> simp [keysS, valsJ]
theorem keysS_keysJ (j : J) : (keysS j).length = (keysJ j).length := by rw [← kvc_len, kvc_steps, List.length_map]
theorem ways_zip (j : J) : waysJ j = [] :: ((keysS j).zip (valsJ j)).flatMap fun x => (waysJ x.2).map (x.1 :: ·) := by
  cases j with
  | arr l =>
    rw [waysJ_arr]
    have : (keysS (.arr l)).zip (valsJ (.arr l)) = l.zipIdx.map fun x => (Stp.idx x.2, x.1) := by
      apply List.ext_getElem
      · simp [keysS, valsJ]
      · intro i h1 h2; simp [keysS, valsJ]
    rw [this, List.flatMap_map]
  | obj m =>
    rw [waysJ_obj]
    have : (keysS (.obj m)).zip (valsJ (.obj m)) = m.map fun x => (Stp.key x.1, x.2) := by
      apply List.ext_getElem
      · simp [keysS, valsJ]
      · intro i h1 h2; simp [keysS, valsJ]
    rw [this, List.flatMap_map]
  | _ => rw [waysJ_leaf _ (by simp) (by simp)]; simp [keysS, valsJ]
theorem le_sum_mem : ∀ (l : List Nat) (x : Nat), x ∈ l → x ≤ l.sum
  | [], x, hx => by cases hx
  | y :: l, x, hx => by
    rw [List.sum_cons]
    rcases List.mem_cons.1 hx with rfl | hx
    · omega
    · have := le_sum_mem l x hx; omega
theorem vals_n (j : J) {i : Nat} (h : i < (valsJ j).length) : (valsJ j)[i].n < j.n ∧ SizeOf.sizeOf (valsJ j)[i] < SizeOf.sizeOf j := by
  cases j with
  | arr l =>
    have hm : l[i]'(by simpa [valsJ] using h) ∈ l := List.getElem_mem _
    have h1 := J.n_mem hm
    have h2 := List.sizeOf_lt_of_mem hm
    simp only [valsJ, J.n_arr, J.arr.sizeOf_spec]
    simp only [J.n_arr] at h1 ⊢
    omega
  | obj m =>
    have hi : i < m.length := by simpa [valsJ, J.ents] using h
    have hm : m[i] ∈ m := List.getElem_mem _
    have h2 := List.sizeOf_lt_of_mem hm
    have h3 : SizeOf.sizeOf m[i].2 < SizeOf.sizeOf m[i] := by cases m[i]; simp; omega
    have h1 : m[i].2.n ≤ (m.map fun x => x.2.n).sum := le_sum_mem _ _ (List.mem_map.2 ⟨_, hm, rfl⟩)
    simp only [valsJ, J.n_obj, J.obj.sizeOf_spec]
    simp
    omega
  | _ => simp [valsJ] at h

/-- A path as an array. -/
def SC.pvc (s : SC) : VC := ⟨5, 0, ByteArray.empty, s.pa, s.pn, s.pc, none, 0, 0, none, 0, 0⟩
theorem stp_vr (w : World) (S : Nat → Prop) (st : Stp) : VR w S st.j (stpC st) := by
  cases st with
  | idx i =>
    show VR w S (.num (2 * (i : Int))) (nVC (2 * (i : Int)))
    rw [VR]
    exact ⟨⟨rfl, rfl, rfl, rfl, rfl, rfl, Nat.le_refl _, Nat.le_refl _, Nat.le_refl _, fun _ => rfl, fun _ => rfl, fun _ => rfl⟩, fun i h => absurd h (by simp [J.list]), fun i h => absurd h (by simp [J.ents]), fun i h => absurd h (by simp [J.ents])⟩
  | key s =>
    show VR w S (.str s) (strVC s)
    rw [VR]
    exact ⟨⟨rfl, rfl, rfl, rfl, rfl, rfl, Nat.le_refl _, Nat.le_refl _, Nat.le_refl _, fun _ => rfl, fun _ => rfl, fun _ => rfl⟩, fun i h => absurd h (by simp [J.list]), fun i h => absurd h (by simp [J.ents]), fun i h => absurd h (by simp [J.ents])⟩

/-- A spot's path as it lies. -/
abbrev PathR (w : World) (S : Nat → Prop) (p : List Stp) (s : SC) : Prop := VR w S (.arr (p.map Stp.j)) s.pvc
/-- One more step. -/
theorem below_path {S : Nat → Prop} {p : List Stp} (st : Stp) (s : SC) (v : VC) {w : World} (hp : PathR w S p s) (h4 : p.length ≤ 1000) (hS : ∀ b, S b → b < w.heap.size) :
    Calls Tryz.prog 39 #[s.val, (stpC st).val, v.val] w fun e w' => ∃ p' q', e = .returned (SC.val ⟨p', s.pn + 1, q', v⟩) ∧ PathR w' (fun b => S b ∨ New w.heap.size w' b) (p ++ [st]) ⟨p', s.pn + 1, q', v⟩ ∧ Below w.heap.size w w' := by
  obtain ⟨ps, hl, hr, hlies, hb⟩ := vr_arr hp
  have hh := hp.head
  have hn : s.pn = p.length := by have := hh.ll; simpa [SC.pvc, J.list] using this
  have hl' : ps.length = p.length := by simpa using hl
  have hS' : ∀ b o, s.pa = some ⟨b, o, none⟩ → cellsOf ps ≠ [] → b < w.heap.size := fun b o e hne => hS b (hb b o e (by
    intro e0
    rw [e0] at hl
    rw [List.eq_nil_of_length_eq_zero hl] at hne
    exact hne rfl))
  refine (below_any s ps (stpC st) v hlies (by omega) (by omega) hh.lc hh.ln hS').mono ?_
  rintro e w' ⟨p', q', rfl, hown, hbl⟩
  refine ⟨p', q', rfl, ?_, hbl⟩
  have := arr_read (S := S) (l := (p ++ [st]).map Stp.j) hown (by simp [hl']) (fun i hi hx => by
    rcases Nat.lt_or_ge i p.length with h | h
    · have e1 : ((p ++ [st]).map Stp.j)[i] = (p.map Stp.j)[i]'(by simpa using h) := by rw [List.getElem_map, List.getElem_map, List.getElem_append_left h]
      rw [e1, List.getElem_append_left (by omega)]
      exact (hr i (by simpa using h) (by omega)).go (fun b hb => hbl.block b (hS b hb)) (fun _ h => h)
    · have e0 : i = p.length := by simp at hi; omega
      subst e0
      have e1 : ((p ++ [st]).map Stp.j)[p.length] = st.j := by simp
      rw [e1, List.getElem_append_right (by omega)]
      simp only [hl', Nat.sub_self, List.getElem_cons_zero]
      exact stp_vr _ _ _)
  exact this
end Go.Proofs.YtnaijgdffbfapaaGreatDoor

namespace Go.Proofs.YtnaijgdffbfapaaGreatDoor
open Go.RowKit

/-- A spot that a call has made: its path in a row of its own. -/
def SpIs (B n : Nat) (xs : List Value) (d : VC) : Value → (Nat → Prop) → World → Prop := fun v S w => ∃ p q lo, v = SC.val ⟨p, n, q, d⟩ ∧ B ≤ lo ∧ RowIs lo 26 6 n xs (.slice p n q) S w
theorem spIs_st {B n : Nat} {xs : List Value} {d : VC} : ∀ v S w w', SpIs B n xs d v S w → Same S w w' → SpIs B n xs d v S w' := fun _ _ _ _ ⟨p, q, lo, e, h, h2⟩ hs => ⟨p, q, lo, e, h, rowIs_st h2 hs⟩
/-- A slice of one such spot. -/
def OneSp (B n : Nat) (xs : List Value) (d : VC) : Value → (Nat → Prop) → World → Prop := fun v S w => ∃ N p q lo, v = .slice (some ⟨N, 0, none⟩) 1 1 ∧ S N ∧ w.heap[N]? = some (.cells (SC.arr ⟨p, n, q, d⟩) 45 (0, 0)) ∧ some N ≠ (Value.slice p n q).ownBlock ∧ B ≤ lo ∧ RowIs lo 26 6 n xs (.slice p n q) S w
theorem oneSp_st {B n : Nat} {xs : List Value} {d : VC} : ∀ v S w w', OneSp B n xs d v S w → Same S w w' → OneSp B n xs d v S w' := fun _ _ _ _ ⟨N, p, q, lo, e, h1, h2, h3, h4, h5⟩ hs => ⟨N, p, q, lo, e, h1, (hs N h1).trans h2, h3, h4, rowIs_st h5 hs⟩

theorem build_spots (s : SC) (w : World) : (Instr.buildSlice 42 1 #[(0, s.val)]).run Tryz.prog w = .ok (.slice (some ⟨w.heap.size, 0, none⟩) 1 1) (w.alloc (.cells s.arr 45)) := by
  unfold SC.val SC.arr
  go_simp

section
variable {news : List (Nat × Tmp)} {olds : List (Tmp × Value)} {L : List KnE} {w0 : World} {i : Nat} {o : Oper}
theorem kn_loadSp {N : Nat} {s : SC} (x : Tmp) (heat : eatB L = true) (hL : L[i]? = some (.v s.val)) (ho : o.op = .load 45 (.tmp x)) (hmem : (x, Value.pointer (some ⟨N, 0, none⟩)) ∈ olds) (hb : SBox w0 N s) (hno : ∀ k ∈ L, k.old ≠ some N) : StepOKE Tryz.prog news olds (knE L) w0 i o :=
  step_kn [] heat hL (fun p hp => by cases hp) fun b w _ ho' hk => by
    have e := ho' _ hmem
    simp only at e
    have hbw : w.heap[N]? = some (.cells s.arr 45 (0, 0)) := (hk N hb.lt hno).trans hb
    unfold execOp
    simp only [ho, e, Sem.run_bind, load_spot hbw, Sem.run_pure, Result.andThen_ok]
theorem kn_below {s : SC} {ps : List VC} {k v : VC} (jx jy jz : Nat) (x y z : Tmp) (ts : Array TypeId) (heat : eatB L = true) (hL : L[i]? = some (.gen none (SpIs w0.heap.size (s.pn + 1) (cellsOf (ps ++ [k])) v) spIs_st))
    (ho : o.op = .call { callee := .value (.func 39), args := #[.tmp x, .tmp y, .tmp z], argTypes := ts })
    (hx : (jx, x) ∈ news) (hjx : L[jx]? = some (.v s.val)) (hwx : waitsB o jx = true) (hy : (jy, y) ∈ news) (hjy : L[jy]? = some (.v k.val)) (hwy : waitsB o jy = true) (hz : (jz, z) ∈ news) (hjz : L[jz]? = some (.v v.val)) (hwz : waitsB o jz = true)
    (hcall : ∀ w, w0.heap.size ≤ w.heap.size → (∀ c, c < w0.heap.size → (∀ k ∈ L, k.old ≠ some c) → w.heap[c]? = w0.heap[c]?) → Calls Tryz.prog 39 #[s.val, k.val, v.val] w (BelowPost s ps k v w)) : StepOKE Tryz.prog news olds (knE L) w0 i o := by
  unfold StepOKE
  rw [knE_at hL]
  refine ⟨(fun j hj => by cases hj), ?_⟩
  intro Q d u S w b K hp hdi hR hd he hK
  have ex := (uses1 hx hjx hwx).eval heat hp hR hd _ List.mem_cons_self
  have ey := (uses1 hy hjy hwy).eval heat hp hR hd _ List.mem_cons_self
  have ez := (uses1 hz hjz hwz).eval heat hp hR hd _ List.mem_cons_self
  simp only at ex ey ez
  refine wp_call_fn 39 _ ts #[s.val, k.val, v.val] (enters_of Tryz.func39 (by kernel_rfl) rfl) ho (by simp only [List.map_toArray, List.map_cons, List.map_nil, ex, ey, ez]) ((hcall w hp.size (planE_keep hp)).mono ?_)
  rintro e w' ⟨p, q, rfl, hown, hb⟩
  exact ⟨_, rfl, hK.out _ (fun g => (Value.slice p (s.pn + 1) q).ownBlock = some g) w' none (grown_of_below0 hb _) (fun b h => by cases h) ⟨p, q, w.heap.size, rfl, hp.size, hown, fun g hg => hg⟩ (fun g hg => ⟨Or.inl (hown.lt g hg).1, (hown.lt g hg).2⟩)⟩

theorem kn_oneSp {B n : Nat} {xs : List Value} {d : VC} (js : Nat) (x : Tmp) (hL : L[i]? = some (.gen (some js) (OneSp B n xs d) oneSp_st)) (ho : o.op = .buildSlice 42 1 #[(0, .tmp x)])
    (hx : (js, x) ∈ news) (hjs : L[js]? = some (.gen none (SpIs B n xs d) spIs_st)) (hws : waitsB o js = true) : StepOKE Tryz.prog news olds (knE L) w0 i o := by
  unfold StepOKE
  rw [knE_at hL]
  refine ⟨fun j hj d hd => ?_, ?_⟩
  · cases hj
    obtain ⟨e1, h4, h5, h6⟩ := waits_of hws
    rw [← h6]; exact hd e1 h4 h5
  intro Q d' u S w b K hp hdi hR hd he hK
  obtain ⟨hdj, hlj⟩ := he js rfl
  obtain ⟨⟨p, q, lo, hv, hlo, hown, hSg⟩, _⟩ := hp.val js none none (SpIs B n xs d) (by rw [knE_at hjs]; rfl) hdj hlj
  have ex := (hR.1 _ hx).trans hv
  simp only at ex
  have hne : ∀ g, (Value.slice p n q).ownBlock = some g → g < w.heap.size := fun g hg => (hown.lt g hg).2
  refine wp_of_run (w' := w.alloc (.cells (SC.arr ⟨p, n, q, d⟩) 45)) _ (by unfold execOp; simp only [ho, List.map_toArray, List.map_cons, List.map_nil, ex, Sem.run_bind, build_spots _ w, Sem.run_pure, Result.andThen_ok]) (hK.out _ (fun b => b = w.heap.size ∨ (Value.slice p n q).ownBlock = some b) _ (Value.slice p n q).ownBlock (World.grownBy_alloc _ _ _) (fun b h => Or.inr ⟨js, rfl, hSg b h⟩) ⟨w.heap.size, p, q, lo, rfl, Or.inl rfl, heap_alloc_new _ _, (fun e => by have := hne _ e.symm; omega), hlo, hown.alloc _, fun g hg => Or.inr hg⟩ (fun g hg => ?_))
  rcases hg with rfl | hg
  · exact ⟨Or.inl (Nat.le_refl _), by simp⟩
  · exact ⟨Or.inr hg, by have := hne g hg; simp; omega⟩
end

def spotCells (xs : List SC) : List Value := xs.flatMap fun s => s.arr.toList
theorem spotCells_append (xs ys : List SC) : spotCells (xs ++ ys) = spotCells xs ++ spotCells ys := by simp [spotCells]
theorem spotCells_one (s : SC) : spotCells [s] = s.arr.toList := by simp [spotCells]
theorem spotCells_all (xs : List SC) : ∀ u ∈ spotCells xs, u.oneCell' = true := by
  intro u hu
  simp only [spotCells, List.mem_flatMap] at hu
  obtain ⟨c, _, hc⟩ := hu
  exact c.cells u hc
/-- Blocks of T, and new ones but the row's own. -/
def Off (T : Nat → Prop) (lo : Nat) (w : World) (v : Value) : Nat → Prop := fun b => T b ∨ (New lo w b ∧ some b ≠ v.ownBlock)
/-- A row of spots that a call owns. -/
def PRow (T : Nat → Prop) (lo : Nat) (l : List (List Stp)) (v : Value) (xs : List SC) (w : World) : Prop :=
  w.ownsRow lo 45 7 v xs.length (spotCells xs) ∧ xs.length = l.length ∧ (∀ i (_ : i < l.length) (h : i < xs.length), PathR w (Off T lo w v) l[i] xs[i]) ∧ (∀ b, T b → b < lo) ∧ lo ≤ w.heap.size
theorem PRow.nil {T : Nat → Prop} {lo : Nat} {w : World} (hT : ∀ b, T b → b < lo) (hlo : lo ≤ w.heap.size) : PRow T lo [] (.slice none 0 0) [] w := ⟨World.ownsRow_nil _ _ _ _, rfl, fun i h => absurd h (Nat.not_lt_zero i), hT, hlo⟩
theorem off_go {T : Nat → Prop} {lo : Nat} {w w' : World} {v v' : Value} (hT : ∀ b, T b → b < lo) (hlo : lo ≤ w.heap.size) (hv : ∀ g, v.ownBlock = some g → lo ≤ g) (hg : w.grownBy w' v.ownBlock) (hat : v'.ownBlock = v.ownBlock ∨ v'.ownBlock = some w.heap.size) : Same (Off T lo w v) w w' ∧ (∀ b, Off T lo w v b → Off T lo w' v' b) := by
  refine ⟨fun b hb => ?_, fun b hb => ?_⟩
  · rcases hb with hb | hb
    · have := hT b hb
      exact hg.block b (by omega) (fun e => by have := hv b e.symm; omega)
    · exact hg.block b hb.1.2 hb.2
  · refine hb.imp (fun h => h) fun hb => ⟨⟨hb.1.1, Nat.lt_of_lt_of_le hb.1.2 hg.size⟩, fun e => ?_⟩
    rcases hat with h | h
    · rw [h] at e; exact hb.2 e
    · rw [h] at e; cases e; exact absurd hb.1.2 (Nat.lt_irrefl _)
theorem PRow.own {T : Nat → Prop} {lo : Nat} {l : List (List Stp)} {v : Value} {xs : List SC} {w : World} (h : PRow T lo l v xs w) : ∀ g, v.ownBlock = some g → lo ≤ g := fun g hg => (h.1.lt g hg).1
theorem PRow.below {T : Nat → Prop} {lo : Nat} {l : List (List Stp)} {v : Value} {xs : List SC} {w w' : World} (h : PRow T lo l v xs w) (hb : Below w.heap.size w w') : PRow T lo l v xs w' :=
  ⟨row_below h.1 hb, h.2.1, fun i hi hx => (h.2.2.1 i hi hx).go (fun b hb' => hb.block b (by rcases hb' with h1 | h1; have := h.2.2.2.1 b h1; have := h.2.2.2.2; omega; exact h1.1.2)) (fun _ hb' => hb'.imp (fun h => h) (fun h => ⟨⟨h.1.1, Nat.lt_of_lt_of_le h.1.2 hb.size⟩, h.2⟩)), h.2.2.2.1, Nat.le_trans h.2.2.2.2 hb.size⟩
/-- More spots behind. -/
theorem PRow.more {T : Nat → Prop} {lo : Nat} {l l' : List (List Stp)} {v v' : Value} {xs ys : List SC} {w w' : World} (h : PRow T lo l v xs w) (hown : w'.ownsRow lo 45 7 v' (xs.length + ys.length) (spotCells xs ++ spotCells ys)) (hg : w.grownBy w' v.ownBlock)
    (hat : v'.ownBlock = v.ownBlock ∨ v'.ownBlock = some w.heap.size) (hl : ys.length = l'.length) (hy : ∀ i (_ : i < l'.length) (h : i < ys.length), PathR w (Off T lo w v) l'[i] ys[i]) : PRow T lo (l ++ l') v' (xs ++ ys) w' := by
  obtain ⟨h1, h2⟩ := off_go h.2.2.2.1 h.2.2.2.2 h.own hg hat
  refine ⟨by rw [List.length_append, spotCells_append]; exact hown, by simp [h.2.1, hl], fun i hi hx => ?_, h.2.2.2.1, Nat.le_trans h.2.2.2.2 hg.size⟩
  rcases Nat.lt_or_ge i l.length with hlt | hge
  · rw [List.getElem_append_left hlt, List.getElem_append_left (by have := h.2.1; omega)]
    exact (h.2.2.1 i hlt (by have := h.2.1; omega)).go h1 h2
  · have e := h.2.1
    rw [List.getElem_append_right hge, List.getElem_append_right (by omega)]
    simp only [e]
    exact (hy (i - l.length) (by simp at hi; omega) (by simp at hx; omega)).go h1 h2
theorem PRow.form {T : Nat → Prop} {lo : Nat} {l : List (List Stp)} {v : Value} {xs : List SC} {w : World} (h : PRow T lo l v xs w) : ∃ a cap, v = .slice a xs.length cap := row_form h.1

/-- A step reads anywhere. -/
theorem stp_any {w : World} {S : Nat → Prop} {st : Stp} {c : VC} (h : VR w S st.j c) (w' : World) (S' : Nat → Prop) : VR w' S' st.j c := by
  have hh := h.head
  cases st with
  | idx i => rw [VR]; exact ⟨hh, fun i h => absurd h (by simp [Stp.j, J.list]), fun i h => absurd h (by simp [Stp.j, J.ents]), fun i h => absurd h (by simp [Stp.j, J.ents])⟩
  | key s => rw [VR]; exact ⟨hh, fun i h => absurd h (by simp [Stp.j, J.list]), fun i h => absurd h (by simp [Stp.j, J.ents]), fun i h => absurd h (by simp [Stp.j, J.ents])⟩
/-- A path's steps, each read anywhere. -/
theorem path_cells {w : World} {S : Nat → Prop} {p : List Stp} {s : SC} (h : PathR w S p s) (hS : ∀ b, S b → b < w.heap.size) :
    ∃ ps : List VC, ps.length = s.pn ∧ s.pn = p.length ∧ s.pn ≤ s.pc ∧ (s.pa = none → s.pc = 0) ∧ Lies w s.pa (cellsOf ps) ∧ (∀ b o, s.pa = some ⟨b, o, none⟩ → cellsOf ps ≠ [] → b < w.heap.size) ∧ ∀ w' S' i (_ : i < p.length) (h : i < ps.length), VR w' S' p[i].j ps[i] := by
  obtain ⟨ps, hl, hr, hlies, hb⟩ := vr_arr h
  have hh := h.head
  have hn : s.pn = p.length := by have := hh.ll; simpa [SC.pvc, J.list] using this
  have hl' : ps.length = p.length := by simpa using hl
  refine ⟨ps, by omega, hn, hh.lc, hh.ln, hlies, fun b o e hne => hS b (hb b o e (by
    intro e0
    rw [e0] at hl
    rw [List.eq_nil_of_length_eq_zero hl] at hne
    exact hne rfl)), fun w' S' i hi hx => ?_⟩
  have := hr i (by simpa using hi) hx
  rw [List.getElem_map] at this
  exact stp_any this w' S'
/-- The path with one more step, in its row. -/
theorem path_row {w : World} {lo n : Nat} {a : Option Addr} {c : Nat} {p : List Stp} {st : Stp} {ps : List VC} {d : VC} (hl : ps.length = p.length) (hr : ∀ w' S' i (_ : i < p.length) (h : i < ps.length), VR w' S' p[i].j ps[i])
    (hown : w.ownsRow lo 26 6 (.slice a n c) n (cellsOf (ps ++ [stpC st]))) : PathR w (New lo w) (p ++ [st]) ⟨a, n, c, d⟩ := by
  have := arr_read (S := fun _ => False) (l := (p ++ [st]).map Stp.j) hown (by simp [hl]) (fun i hi hx => by
    rcases Nat.lt_or_ge i p.length with h | h
    · have e1 : ((p ++ [st]).map Stp.j)[i] = p[i].j := by rw [List.getElem_map, List.getElem_append_left h]
      rw [e1, List.getElem_append_left (by omega)]
      exact hr _ _ i h (by omega)
    · have e0 : i = p.length := by simp at hi; omega
      subst e0
      have e1 : ((p ++ [st]).map Stp.j)[p.length] = st.j := by simp
      rw [e1, List.getElem_append_right (by omega)]
      simp only [hl, Nat.sub_self, List.getElem_cons_zero]
      exact stp_vr _ _ _)
  exact this.mono fun b hb => hb.elim (fun h => h.elim) (fun h => h)
end Go.Proofs.YtnaijgdffbfapaaGreatDoor
