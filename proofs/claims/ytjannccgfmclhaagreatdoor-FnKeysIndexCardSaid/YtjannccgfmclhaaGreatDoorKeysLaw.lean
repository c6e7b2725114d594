/- A part of the proof. -/
import Derived.Test.YtjannccgfmclhaaGreatDoorCont
import Derived.Test.YtjannccgfmclhaaGreatDoorKn
import Derived.LoopTactic
import Derived.Deep.DeepCutAuto
import Derived.Deep.CutBlock
namespace Go.Proofs.YtjannccgfmclhaaGreatDoor
open Go.RowKit

theorem holds_of {j : J} (h : j.kind = 5 ∨ j.kind = 6) : Holds j := by
  cases j with
  | arr l => trivial
  | obj l => trivial
  | bool b => cases b <;> simp [J.kind] at h
  | _ => simp [J.kind] at h

/-- The keys, the values and the length, in boxes of their own. -/
structure Three (w : World) (a : VC) (j : J) (Nk Nx Nn : Nat) (ck cx cn : VC) (wx : World) : Prop where
  k : ResBox wx Nk ck 0
  x : ResBox wx Nx cx 0
  n : ResBox wx Nn cn 0
  vk : VR wx (· < wx.heap.size) (.arr (keysJ j)) ck
  vx : VR wx (· < wx.heap.size) (.arr (valsJ j)) cx
  vn : VR wx (· < wx.heap.size) (.num (2 * ((valsJ j).length : Int))) cn
  a : Box wx w.heap.size a
  low : Below w.heap.size w wx

set_option maxRecDepth 100000 in
set_option maxHeartbeats 8000000 in
theorem FnKeysIndex_any (ta : T) (a : VC) (B : Nat) {w : World} (hB : B ≤ w.heap.size) (h40 : LB ≤ B) (hT : Tabs w) (ha : TR w B ta a) :
    Calls Tryz.prog 3 #[a.val] w (TruePost w) := by
  have hb0 : Below w.heap.size w (w.alloc (.cells a.arr 26)) := (Below.refl _ _).alloc (Nat.le_refl _) _
  have Z1 := Lib.hid (zzFits1_any ta a (B := B) (w := w.alloc (.cells a.arr 26)) (by simp; omega) (ha.go (hb0.mono hB) (Nat.le_refl _)))
  have HB0 := Lib.hid hb0; have BX0 := Lib.hid (box_alloc w a)
  have HA := Lib.hid ha; have HT := Lib.hid hT
  clear hb0 ha hT
  obtain ⟨k0, h0, s0, la, ll, lc, ka, kl, kc, va, vl, vc⟩ := a
  unfold VC.val
  unfold VC.val at Z1
  unfold VC.arr at *
  go_enter Tryz.func3, Tryz.ntmps3
  go_wp2_with fail
  refine Z1.out.mono ?_
  rintro e w1 ⟨b1, rfl, hb1⟩
  have x0 := BX0.out.below hb1 (by simp)
  have p0 := x0.c0; have p1 := x0.c1; have p2 := x0.c2; have p3 := x0.c3; have p4 := x0.c4; have p5 := x0.c5
  have W1 := Lib.hid (HB0.out.trans (hb1.mono HB0.out.size))
  have HB1 := Lib.hid hb1
  clear hb1 x0
  obtain rfl | rfl : b1 = false ∨ b1 = true := by cases b1 <;> simp
  · go_wp2_with fail
    go_ret
    exact ⟨rfl, W1.out⟩
  go_wp2_with fail
  have hp := box_alloc w1 ⟨k0, h0, s0, la, ll, lc, ka, kl, kc, va, vl, vc⟩
  unfold VC.arr at hp
  have bal : ∀ o, Below w.heap.size w (w1.alloc o) := fun o => W1.out.alloc W1.out.size o
  have F := fits_any [ta] (fun _ => ⟨k0, h0, s0, la, ll, lc, ka, kl, kc, va, vl, vc⟩) w1.heap.size 1 B (w := w1.alloc _) (by simp) (by have := W1.out.size; simp; omega) h40 (HT.out.below ((bal _).mono hB) h40) (by simp) (fun i hi => by
    obtain rfl : i = 0 := by simp at hi; omega
    exact ⟨by simpa using hp.at6, HA.out.go ((bal _).mono hB) (Nat.le_refl _)⟩)
  refine F.mono ?_
  rintro e w3 ⟨b3, rfl, hgood, hb3⟩
  clear F hp bal
  have x0 := BX0.out.below (HB1.out.trans (((Below.refl _ _).alloc HB1.out.size _).trans (hb3.mono (by have := HB1.out.size; simp at this ⊢; omega)))) (by simp)
  clear p0 p1 p2 p3 p4 p5
  have W3 := Lib.hid ((W1.out.alloc W1.out.size _).trans (hb3.mono (by have := W1.out.size; simp; omega)))
  have p0 := x0.c0; have p1 := x0.c1; have p2 := x0.c2; have p3 := x0.c3; have p4 := x0.c4; have p5 := x0.c5
  have X0 := Lib.hid x0; have HG := Lib.hid hgood
  have sz3 : w.heap.size + 1 ≤ w3.heap.size := Nat.le_trans (by have := HB1.out.size; simp at this ⊢; omega) hb3.size
  clear hgood hb3 x0
  obtain rfl | rfl : b3 = false ∨ b3 = true := by cases b3 <;> simp
  · go_wp2_with fail
    go_ret
    exact ⟨rfl, W3.out⟩
  have CN := Lib.hid (container_any ⟨k0, h0, s0, la, ll, lc, ka, kl, kc, va, vl, vc⟩ w3)
  unfold VC.val VC.arr at CN
  go_wp2_with fail
  refine CN.out.mono ?_
  rintro e w4 ⟨rfl, hb4⟩
  have W4 := Lib.hid (W3.out.trans (hb4.mono W3.out.size))
  have X4 := Lib.hid (X0.out.below (hb4.mono sz3) (by omega))
  have sz4 := hb4.size
  clear hb4 CN p0 p1 p2 p3 p4 p5
  simp only
  by_cases hk : k0 = 5 ∨ k0 = 6
  case neg =>
    rw [decide_eq_false hk]
    go_wp2_with fail
    go_ret
    exact ⟨rfl, W4.out⟩
  rw [decide_eq_true hk]
  have GD : Good ta ∧ ta.n ≤ 400 := HG.out trivial 0 (by simp)
  have JA := JOK.of GD.1 GD.2
  have va0 : ∀ w', Below w.heap.size w w' → VR w' (· < B) ta.j _ := fun w' hb => VR.of GD.1 (HA.out.go (hb.mono hB) (Nat.le_refl _))
  have HH : Holds ta.j := holds_of (by rw [← (va0 w (Below.refl _ _)).head.k]; exact hk)
  have VA := Lib.hid va0
  have VLT := Lib.hid fun (b : Nat) (hb : b < B) (w' : World) (hl : Below w.heap.size w w') => Nat.lt_of_lt_of_le (Nat.lt_of_lt_of_le hb hB) hl.size
  have JH := Lib.hid JA
  clear va0 JA GD HG hk
  generalize ta.j = j at *
  go_upto_region 5 with fail
  go_cut [3, 4, 5] (fun u v z wx => ∃ Nk Nx Nn ck cx cn, u = .pointer (some ⟨Nk, 0, none⟩) ∧ v = .pointer (some ⟨Nx, 0, none⟩) ∧ z = .pointer (some ⟨Nn, 0, none⟩) ∧ Three w ⟨k0, h0, s0, la, ll, lc, ka, kl, kc, va, vl, vc⟩ j Nk Nx Nn ck cx cn wx)
  case first =>
    rename_i J0 K0 hJ hM
    have x4 := X4.out
    have a0 := x4.c0; have a1 := x4.c1; have a2 := x4.c2; have a3 := x4.c3; have a4 := x4.c4; have a5 := x4.c5; have lta := x4.lt
    clear x4
    refine plan_regionG 12 96 [(0, 20), (1, 21), (2, 22), (3, 23), (4, 24), (5, 25), (6, 3), (7, 4), (8, 5)] [(1, (.pointer (some ⟨w.heap.size, 0, none⟩)))]
      (knIt [.v (VC.val ⟨k0, h0, s0, la, ll, lc, ka, kl, kc, va, vl, vc⟩), .r (.arr (keysJ j)), .v (VC.val ⟨k0, h0, s0, la, ll, lc, ka, kl, kc, va, vl, vc⟩), .r (.arr (valsJ j)), .v (VC.val ⟨k0, h0, s0, la, ll, lc, ka, kl, kc, va, vl, vc⟩), .r (.num (2 * ((valsJ j).length : Int))), .box, .box, .box, .put 6 1, .put 7 3, .put 8 5])
      (by kernel_rfl) (by kernel_rfl) rfl ?_ (knIt_st _) (knIt_none _) ?_ (knIt_one _ rfl) (knIt_rest _ 12 rfl) ?_ ?_
    · intro p hp
      simp only [List.mem_cons, List.not_mem_nil, or_false] at hp
      rcases hp with rfl <;> rfl
    · intro i o g want ho hg
      rcases i with _ | _ | _ | _ | _ | _ | _ | _ | _ | _ | _ | _ | i
      · obtain rfl := Option.some.inj ho
        cases hg
      · obtain rfl := Option.some.inj ho
        cases hg
      · obtain rfl := Option.some.inj ho
        cases hg
      · obtain rfl := Option.some.inj ho
        cases hg
      · obtain rfl := Option.some.inj ho
        cases hg
      · obtain rfl := Option.some.inj ho
        cases hg
      · obtain rfl := Option.some.inj ho
        cases hg
      · obtain rfl := Option.some.inj ho
        cases hg
      · obtain rfl := Option.some.inj ho
        cases hg
      · obtain rfl := Option.some.inj ho
        cases hg
      · obtain rfl := Option.some.inj ho
        cases hg
      · obtain rfl := Option.some.inj ho
        cases hg
      · have := (Array.getElem?_eq_some_iff.1 ho).1
        exact absurd this (Nat.not_lt.2 (Nat.le_add_left 12 i))
    · intro i o ho
      rcases i with _ | _ | _ | _ | _ | _ | _ | _ | _ | _ | _ | _ | i
      · obtain rfl := Option.some.inj ho
        exact step_load 1 rfl rfl (by simp) X4.out (fun j φ h => by have := knIt_none _ j _ φ h; cases this)
      · obtain rfl := Option.some.inj ho
        exact step_callR 7 #[.tmp 20] _ #[VC.val ⟨k0, h0, s0, la, ll, lc, ka, kl, kc, va, vl, vc⟩] [(0, 20, VC.val ⟨k0, h0, s0, la, ll, lc, ka, kl, kc, va, vl, vc⟩)] (enters_of Tryz.func7 (by kernel_rfl) rfl) rfl (knIt_none _) rfl (fun p hp => by obtain rfl := List.mem_singleton.1 hp; exact ⟨by simp, rfl, by kernel_rfl⟩) (fun b hu _ => by simp only [List.map_toArray, List.map_cons, List.map_nil, hu _ List.mem_cons_self]) (fun w' hb => IKeys_cont JH.out HH (VA.out w' (W4.out.trans (hb.mono W4.out.size))) (fun b hb' => VLT.out b hb' w' (W4.out.trans (hb.mono W4.out.size))))
      · obtain rfl := Option.some.inj ho
        exact step_load 1 rfl rfl (by simp) X4.out (fun j φ h => by have := knIt_none _ j _ φ h; cases this)
      · obtain rfl := Option.some.inj ho
        exact step_callR 8 #[.tmp 22] _ #[VC.val ⟨k0, h0, s0, la, ll, lc, ka, kl, kc, va, vl, vc⟩] [(2, 22, VC.val ⟨k0, h0, s0, la, ll, lc, ka, kl, kc, va, vl, vc⟩)] (enters_of Tryz.func8 (by kernel_rfl) rfl) rfl (knIt_none _) rfl (fun p hp => by obtain rfl := List.mem_singleton.1 hp; exact ⟨by simp, rfl, by kernel_rfl⟩) (fun b hu _ => by simp only [List.map_toArray, List.map_cons, List.map_nil, hu _ List.mem_cons_self]) (fun w' hb => IValues_cont JH.out HH (VA.out w' (W4.out.trans (hb.mono W4.out.size))) (fun b hb' => VLT.out b hb' w' (W4.out.trans (hb.mono W4.out.size))))
      · obtain rfl := Option.some.inj ho
        exact step_load 1 rfl rfl (by simp) X4.out (fun j φ h => by have := knIt_none _ j _ φ h; cases this)
      · obtain rfl := Option.some.inj ho
        exact step_callR 9 #[.tmp 24] _ #[VC.val ⟨k0, h0, s0, la, ll, lc, ka, kl, kc, va, vl, vc⟩] [(4, 24, VC.val ⟨k0, h0, s0, la, ll, lc, ka, kl, kc, va, vl, vc⟩)] (enters_of Tryz.func9 (by kernel_rfl) rfl) rfl (knIt_none _) rfl (fun p hp => by obtain rfl := List.mem_singleton.1 hp; exact ⟨by simp, rfl, by kernel_rfl⟩) (fun b hu _ => by simp only [List.map_toArray, List.map_cons, List.map_nil, hu _ List.mem_cons_self]) (fun w' hb => ILength_cont JH.out HH (VA.out w' (W4.out.trans (hb.mono W4.out.size))) (fun b hb' => VLT.out b hb' w' (W4.out.trans (hb.mono W4.out.size))))
      · obtain rfl := Option.some.inj ho
        exact step_res rfl rfl
      · obtain rfl := Option.some.inj ho
        exact step_res rfl rfl
      · obtain rfl := Option.some.inj ho
        exact step_res rfl rfl
      · obtain rfl := Option.some.inj ho
        exact step_put1 6 1 3 21 rfl rfl rfl rfl (by simp) (by simp) (by kernel_rfl) (by kernel_rfl) rfl
      · obtain rfl := Option.some.inj ho
        exact step_put1 7 3 4 23 rfl rfl rfl rfl (by simp) (by simp) (by kernel_rfl) (by kernel_rfl) rfl
      · obtain rfl := Option.some.inj ho
        exact step_put1 8 5 5 25 rfl rfl rfl rfl (by simp) (by simp) (by kernel_rfl) (by kernel_rfl) rfl
      · have := (Array.getElem?_eq_some_iff.1 ho).1
        exact absurd this (Nat.not_lt.2 (Nat.le_add_left 12 i))
    · intro u S w5 hp
      obtain ⟨Nk, ck, ek, lk, hk, vk⟩ := plan_res1 hp (i := 9) (b := 6) (s := 1) rfl rfl rfl
      obtain ⟨Nx, cx, ex, lx, hx, vx⟩ := plan_res1 hp (i := 10) (b := 7) (s := 3) rfl rfl rfl
      obtain ⟨Nn, cn, en, ln, hn, vn⟩ := plan_res1 hp (i := 11) (b := 8) (s := 5) rfl rfl rfl
      have b5 := hp.low (knIt_none _)
      have sk := fun b (h : S 1 b) => ((hp.val 1 _ _ rfl rfl).2 b h).2
      have sx := fun b (h : S 3 b) => ((hp.val 3 _ _ rfl rfl).2 b h).2
      have sn := fun b (h : S 5 b) => ((hp.val 5 _ _ rfl rfl).2 b h).2
      have TH := Lib.hid (show Three w ⟨k0, h0, s0, la, ll, lc, ka, kl, kc, va, vl, vc⟩ j Nk Nx Nn ck cx cn w5 from ⟨hk, hx, hn, vk.mono sk, vx.mono sx, vn.mono sn, X4.out.below b5 (by omega), W4.out.trans (b5.mono W4.out.size)⟩)
      clear hp hk hx hn vk vx vn b5 sk sx sn
      simp only [frameOf, frameL, List.zipIdx_cons, List.zipIdx_nil, Act.put, List.setIfInBounds_toArray, List.set_cons_zero, List.set_cons_succ, Nat.zero_add, Nat.reduceAdd]
      refine hM _ _ (Met.intro (hJ _ _ ?_))
      repeat apply Exists.intro
      refine ⟨?rel, rfl⟩
      case rel => exact ⟨Nk, Nx, Nn, ck, cx, cn, ek, ex, en, TH.out⟩
  case rest =>
    obtain ⟨Nk, Nx, Nn, ck, cx, cn, rfl, rfl, rfl, hth⟩ := hcut
    rename World => w9c
    have TH := Lib.hid hth
    have hk := hth.vk.head; have hx := hth.vx.head
    have kk : ck.k = 5 := hk.k
    have xk : cx.k = 5 := hx.k
    have kll : ck.ll = (keysJ j).length := hk.ll
    have xll : cx.ll = (valsJ j).length := hx.ll
    obtain ⟨n, hn⟩ : ∃ n, n = (valsJ j).length := ⟨_, rfl⟩
    have h400 : n ≤ 400 := by rw [hn]; exact vals_len JH.out
    have GN := Lib.hid fun w' (hb : Below w9c.heap.size w9c w') => given_value (.num (2 * ((valsJ j).length : Int))) cn (numVC (2 * (n : Int))) w' (· < w9c.heap.size) (len_ok JH.out) (hth.vn.go (fun b h => hb.block b h) (fun _ h => h)) (by rw [hn]; exact VR.num _ _ _) (fun b h => Nat.lt_of_lt_of_le h hb.size)
    rw [keys_vals_len, ← hn] at kll
    rw [← hn] at xll
    replace kll := kll.symm
    replace xll := xll.symm
    clear hth hk hx
    obtain ⟨kk0, kh, ks, kla, kll0, klc, kka, kkl, kkc, kva, kvl, kvc⟩ := ck
    obtain ⟨xk0, xh, xs, xla, xll0, xlc, xka, xkl, xkc, xva, xvl, xvc⟩ := cx
    simp only at kk xk kll xll
    subst kk xk kll xll
    have k0' := TH.out.k.c0; have k3 := TH.out.k.c3; have k6 := TH.out.k.c6; have ltk := TH.out.k.lt
    have x0' := TH.out.x.c0; have x3 := TH.out.x.c3; have x6 := TH.out.x.c6; have ltx := TH.out.x.lt
    simp only at k0' k3 x0' x3
    go_upto_region 6 with fail
    go_cut [66] (fun v wx => v = .bool false ∧ Below w9c.heap.size w9c wx)
    case first =>
      rename_i J0 K0 hJ hM
      refine plan_regionG 41 96 [(0, 26), (1, 27), (2, 28), (3, 29), (4, 30), (5, 31), (6, 32), (7, 33), (8, 34), (9, 35), (10, 36), (11, 37), (12, 38), (13, 39), (14, 40), (15, 41), (16, 42), (17, 43), (18, 44), (19, 45), (20, 46), (21, 47), (22, 48), (23, 49), (24, 50), (25, 51), (26, 52), (27, 53), (28, 54), (29, 55), (30, 56), (31, 57), (32, 58), (33, 59), (34, 60), (35, 61), (36, 62), (37, 63), (38, 64), (39, 65), (40, 66)] [(3, (.pointer (some ⟨Nk, 0, none⟩))), (4, (.pointer (some ⟨Nx, 0, none⟩))), (5, (.pointer (some ⟨Nn, 0, none⟩)))]
        (knIt [.v (.pointer (some ⟨Nk, 6, none⟩)), .v (.int .i64 0), .v (.bool false), .v (.bool false), .v (.pointer (some ⟨Nx, 6, none⟩)), .v (.int .i64 0), .v (.bool false), .v (.bool false), .v (.bool false), .v (.pointer (some ⟨Nk, 0, none⟩)), .v (.pointer (some ⟨Nk, 3, none⟩)), .v (.slice kla n klc), .v (.int .i64 (n : Int)), .v (.pointer (some ⟨Nx, 0, none⟩)), .v (.pointer (some ⟨Nx, 3, none⟩)), .v (.slice xla n xlc), .v (.int .i64 (n : Int)), .v (.bool false), .v (.bool false), .v (.bool false), .v (resVal cn 0), .v (.pointer (some ⟨Nk, 0, none⟩)), .v (.pointer (some ⟨Nk, 3, none⟩)), .v (.slice kla n klc), .v (.int .i64 (n : Int)), .v (VC.val (numVC (2 * (n : Int)))), .v (.bool true), .v (.bool false), .v (.bool false), .v (.bool false), .v (.pointer (some ⟨Nk, 0, none⟩)), .v (.pointer (some ⟨Nk, 0, none⟩)), .v (.int .i64 5), .v (.bool false), .v (.bool false), .v (.bool false), .v (.pointer (some ⟨Nx, 0, none⟩)), .v (.pointer (some ⟨Nx, 0, none⟩)), .v (.int .i64 5), .v (.bool false), .v (.bool false)])
        (by kernel_rfl) (by kernel_rfl) rfl ?_ (knIt_st _) (knIt_none _) ?_ (knIt_one _ rfl) (knIt_rest _ 41 rfl) ?_ ?_
      · intro p hp
        simp only [List.mem_cons, List.not_mem_nil, or_false] at hp
        rcases hp with rfl | rfl | rfl <;> rfl
      · intro i o g want ho hg
        rcases i with _ | _ | _ | _ | _ | _ | _ | _ | _ | _ | _ | _ | _ | _ | _ | _ | _ | _ | _ | _ | _ | _ | _ | _ | _ | _ | _ | _ | _ | _ | _ | _ | _ | _ | _ | _ | _ | _ | _ | _ | _ | i
        · obtain rfl := Option.some.inj ho
          cases hg
        · obtain rfl := Option.some.inj ho
          cases hg
        · obtain rfl := Option.some.inj ho
          cases hg
        · obtain rfl := Option.some.inj ho
          cases hg
        · obtain rfl := Option.some.inj ho
          cases hg; exact ⟨rfl, 29, by simp⟩
        · obtain rfl := Option.some.inj ho
          cases hg; exact ⟨rfl, 29, by simp⟩
        · obtain rfl := Option.some.inj ho
          cases hg; exact ⟨rfl, 29, by simp⟩
        · obtain rfl := Option.some.inj ho
          cases hg
        · obtain rfl := Option.some.inj ho
          cases hg
        · obtain rfl := Option.some.inj ho
          cases hg; exact ⟨rfl, 34, by simp⟩
        · obtain rfl := Option.some.inj ho
          cases hg; exact ⟨rfl, 34, by simp⟩
        · obtain rfl := Option.some.inj ho
          cases hg; exact ⟨rfl, 34, by simp⟩
        · obtain rfl := Option.some.inj ho
          cases hg; exact ⟨rfl, 34, by simp⟩
        · obtain rfl := Option.some.inj ho
          cases hg; exact ⟨rfl, 34, by simp⟩
        · obtain rfl := Option.some.inj ho
          cases hg; exact ⟨rfl, 34, by simp⟩
        · obtain rfl := Option.some.inj ho
          cases hg; exact ⟨rfl, 34, by simp⟩
        · obtain rfl := Option.some.inj ho
          cases hg; exact ⟨rfl, 34, by simp⟩
        · obtain rfl := Option.some.inj ho
          cases hg; exact ⟨rfl, 34, by simp⟩
        · obtain rfl := Option.some.inj ho
          cases hg
        · obtain rfl := Option.some.inj ho
          cases hg
        · obtain rfl := Option.some.inj ho
          cases hg; exact ⟨rfl, 45, by simp⟩
        · obtain rfl := Option.some.inj ho
          cases hg; exact ⟨rfl, 45, by simp⟩
        · obtain rfl := Option.some.inj ho
          cases hg; exact ⟨rfl, 45, by simp⟩
        · obtain rfl := Option.some.inj ho
          cases hg; exact ⟨rfl, 45, by simp⟩
        · obtain rfl := Option.some.inj ho
          cases hg; exact ⟨rfl, 45, by simp⟩
        · obtain rfl := Option.some.inj ho
          cases hg; exact ⟨rfl, 45, by simp⟩
        · obtain rfl := Option.some.inj ho
          cases hg; exact ⟨rfl, 45, by simp⟩
        · obtain rfl := Option.some.inj ho
          cases hg; exact ⟨rfl, 45, by simp⟩
        · obtain rfl := Option.some.inj ho
          cases hg
        · obtain rfl := Option.some.inj ho
          cases hg
        · obtain rfl := Option.some.inj ho
          cases hg; exact ⟨rfl, 55, by simp⟩
        · obtain rfl := Option.some.inj ho
          cases hg; exact ⟨rfl, 55, by simp⟩
        · obtain rfl := Option.some.inj ho
          cases hg; exact ⟨rfl, 55, by simp⟩
        · obtain rfl := Option.some.inj ho
          cases hg; exact ⟨rfl, 55, by simp⟩
        · obtain rfl := Option.some.inj ho
          cases hg
        · obtain rfl := Option.some.inj ho
          cases hg
        · obtain rfl := Option.some.inj ho
          cases hg; exact ⟨rfl, 61, by simp⟩
        · obtain rfl := Option.some.inj ho
          cases hg; exact ⟨rfl, 61, by simp⟩
        · obtain rfl := Option.some.inj ho
          cases hg; exact ⟨rfl, 61, by simp⟩
        · obtain rfl := Option.some.inj ho
          cases hg; exact ⟨rfl, 61, by simp⟩
        · obtain rfl := Option.some.inj ho
          cases hg
        · have := (Array.getElem?_eq_some_iff.1 ho).1
          exact absurd this (Nat.not_lt.2 (Nat.le_add_left 41 i))
      · intro i o ho
        rcases i with _ | _ | _ | _ | _ | _ | _ | _ | _ | _ | _ | _ | _ | _ | _ | _ | _ | _ | _ | _ | _ | _ | _ | _ | _ | _ | _ | _ | _ | _ | _ | _ | _ | _ | _ | _ | _ | _ | _ | _ | _ | i
        · obtain rfl := Option.some.inj ho
          exact step_field 30 1 3 rfl rfl (by simp) (fieldRes1 _)
        · obtain rfl := Option.some.inj ho
          exact step_load1 3 0 26 rfl rfl (knIt_none _) (by simp) rfl (by kernel_rfl) k6 ltk (loadInt _ _ _)
        · obtain rfl := Option.some.inj ho
          exact step_neqC _ _ (Or.inl rfl) 1 27 rfl (by simp) rfl (knIt_none _) (by simp) rfl (by kernel_rfl)
        · obtain rfl := Option.some.inj ho
          exact step_move1 2 28 rfl rfl (knIt_none _) (by simp) rfl (by kernel_rfl)
        · obtain rfl := Option.some.inj ho
          exact step_field 30 1 4 rfl rfl (by simp) (fieldRes1 _)
        · obtain rfl := Option.some.inj ho
          exact step_load1 3 4 30 rfl rfl (knIt_none _) (by simp) rfl (by kernel_rfl) x6 ltx (loadInt _ _ _)
        · obtain rfl := Option.some.inj ho
          exact step_neqC _ _ (Or.inl rfl) 5 31 rfl (by simp) rfl (knIt_none _) (by simp) rfl (by kernel_rfl)
        · obtain rfl := Option.some.inj ho
          exact step_or 3 6 29 32 rfl rfl (knIt_none _) (by simp) rfl (by kernel_rfl) (by simp) rfl (by kernel_rfl)
        · obtain rfl := Option.some.inj ho
          exact step_move1 7 33 rfl rfl (knIt_none _) (by simp) rfl (by kernel_rfl)
        · obtain rfl := Option.some.inj ho
          exact step_field 30 0 3 rfl rfl (by simp) (fieldRes0 _)
        · obtain rfl := Option.some.inj ho
          exact step_field1 26 3 9 35 rfl rfl (knIt_none _) (by simp) rfl (by kernel_rfl) (fieldVal3 _)
        · obtain rfl := Option.some.inj ho
          exact step_load1 23 10 36 rfl rfl (knIt_none _) (by simp) rfl (by kernel_rfl) k3 ltk (loadValues _ _ _)
        · obtain rfl := Option.some.inj ho
          exact step_len 11 37 rfl rfl (knIt_none _) (by simp) rfl (by kernel_rfl)
        · obtain rfl := Option.some.inj ho
          exact step_field 30 0 4 rfl rfl (by simp) (fieldRes0 _)
        · obtain rfl := Option.some.inj ho
          exact step_field1 26 3 13 39 rfl rfl (knIt_none _) (by simp) rfl (by kernel_rfl) (fieldVal3 _)
        · obtain rfl := Option.some.inj ho
          exact step_load1 23 14 40 rfl rfl (knIt_none _) (by simp) rfl (by kernel_rfl) x3 ltx (loadValues _ _ _)
        · obtain rfl := Option.some.inj ho
          exact step_len 15 41 rfl rfl (knIt_none _) (by simp) rfl (by kernel_rfl)
        · obtain rfl := Option.some.inj ho
          exact step_neq _ _ (Or.inl rfl) 12 16 38 42 rfl (by simp) rfl (knIt_none _) (by simp) rfl (by kernel_rfl) (by simp) rfl (by kernel_rfl)
        · obtain rfl := Option.some.inj ho
          exact step_or 8 17 34 43 rfl rfl (knIt_none _) (by simp) rfl (by kernel_rfl) (by simp) rfl (by kernel_rfl)
        · obtain rfl := Option.some.inj ho
          exact step_move1 18 44 rfl rfl (knIt_none _) (by simp) rfl (by kernel_rfl)
        · obtain rfl := Option.some.inj ho
          exact step_loadR 5 rfl rfl (by simp) TH.out.n (knIt_none _)
        · obtain rfl := Option.some.inj ho
          exact step_field 30 0 3 rfl rfl (by simp) (fieldRes0 _)
        · obtain rfl := Option.some.inj ho
          exact step_field1 26 3 21 47 rfl rfl (knIt_none _) (by simp) rfl (by kernel_rfl) (fieldVal3 _)
        · obtain rfl := Option.some.inj ho
          exact step_load1 23 22 48 rfl rfl (knIt_none _) (by simp) rfl (by kernel_rfl) k3 ltk (loadValues _ _ _)
        · obtain rfl := Option.some.inj ho
          exact step_len 23 49 rfl rfl (knIt_none _) (by simp) rfl (by kernel_rfl)
        · obtain rfl := Option.some.inj ho
          exact step_callV 11 #[.tmp 50] _ #[.int .i64 (n : Int)] [(24, 50, .int .i64 (n : Int))] (enters_of Tryz.func11 (by kernel_rfl) rfl) rfl (knIt_none _) rfl (fun p hp => by obtain rfl := List.mem_singleton.1 hp; exact ⟨by simp, rfl, by kernel_rfl⟩) (fun b hu _ => by simp only [List.map_toArray, List.map_cons, List.map_nil, hu _ List.mem_cons_self]) (fun w' _ => lnumber_any n (by omega) (by omega) w')
        · obtain rfl := Option.some.inj ho
          exact step_callV 10 #[.tmp 46, .tmp 51] _ #[resVal cn 0, VC.val (numVC (2 * (n : Int)))] [(20, 46, resVal cn 0), (25, 51, VC.val (numVC (2 * (n : Int))))] (enters_of Tryz.func10 (by kernel_rfl) rfl) rfl (knIt_none _) rfl (fun p hp => by
            rcases List.mem_cons.1 hp with rfl | hp
            · exact ⟨by simp, rfl, by kernel_rfl⟩
            · obtain rfl := List.mem_singleton.1 hp; exact ⟨by simp, rfl, by kernel_rfl⟩) (fun b hu _ => by simp only [List.map_toArray, List.map_cons, List.map_nil, hu _ List.mem_cons_self, hu _ (List.mem_cons_of_mem _ List.mem_cons_self)]) (fun w' hb => GN.out w' hb)
        · obtain rfl := Option.some.inj ho
          exact step_not _ 26 52 rfl rfl (knIt_none _) (by simp) rfl (by kernel_rfl)
        · obtain rfl := Option.some.inj ho
          exact step_or 19 27 45 53 rfl rfl (knIt_none _) (by simp) rfl (by kernel_rfl) (by simp) rfl (by kernel_rfl)
        · obtain rfl := Option.some.inj ho
          exact step_move1 28 54 rfl rfl (knIt_none _) (by simp) rfl (by kernel_rfl)
        · obtain rfl := Option.some.inj ho
          exact step_field 30 0 3 rfl rfl (by simp) (fieldRes0 _)
        · obtain rfl := Option.some.inj ho
          exact step_field1 26 0 30 56 rfl rfl (knIt_none _) (by simp) rfl (by kernel_rfl) (fieldVal0 _)
        · obtain rfl := Option.some.inj ho
          exact step_load1 22 31 57 rfl rfl (knIt_none _) (by simp) rfl (by kernel_rfl) k0' ltk (loadKind _ _ _)
        · obtain rfl := Option.some.inj ho
          exact step_neqC _ _ (Or.inr rfl) 32 58 rfl (by simp) rfl (knIt_none _) (by simp) rfl (by kernel_rfl)
        · obtain rfl := Option.some.inj ho
          exact step_or 29 33 55 59 rfl rfl (knIt_none _) (by simp) rfl (by kernel_rfl) (by simp) rfl (by kernel_rfl)
        · obtain rfl := Option.some.inj ho
          exact step_move1 34 60 rfl rfl (knIt_none _) (by simp) rfl (by kernel_rfl)
        · obtain rfl := Option.some.inj ho
          exact step_field 30 0 4 rfl rfl (by simp) (fieldRes0 _)
        · obtain rfl := Option.some.inj ho
          exact step_field1 26 0 36 62 rfl rfl (knIt_none _) (by simp) rfl (by kernel_rfl) (fieldVal0 _)
        · obtain rfl := Option.some.inj ho
          exact step_load1 22 37 63 rfl rfl (knIt_none _) (by simp) rfl (by kernel_rfl) x0' ltx (loadKind _ _ _)
        · obtain rfl := Option.some.inj ho
          exact step_neqC _ _ (Or.inr rfl) 38 64 rfl (by simp) rfl (knIt_none _) (by simp) rfl (by kernel_rfl)
        · obtain rfl := Option.some.inj ho
          exact step_or 35 39 61 65 rfl rfl (knIt_none _) (by simp) rfl (by kernel_rfl) (by simp) rfl (by kernel_rfl)
        · have := (Array.getElem?_eq_some_iff.1 ho).1
          exact absurd this (Nat.not_lt.2 (Nat.le_add_left 41 i))
      · intro u S w5 hp
        have b5 := hp.low (knIt_none _)
        have e66 : u 40 = .bool false := isV_of hp (j := 40) rfl rfl
        have B5 := Lib.hid b5
        clear hp b5
        simp only [frameOf, frameL, List.zipIdx_cons, List.zipIdx_nil, Act.put, List.setIfInBounds_toArray, List.set_cons_zero, List.set_cons_succ, Nat.zero_add, Nat.reduceAdd]
        refine hM _ _ (Met.intro (hJ _ _ ?_))
        repeat apply Exists.intro
        refine ⟨?rel, rfl⟩
        case rel => exact ⟨e66, B5.out⟩
    case rest =>
      obtain ⟨rfl, hb6⟩ := hcut
      rename World => w6
      have k3d := (hb6.cell (p := ⟨Nk, 3, none⟩) ltk).trans k3
      have B6 := Lib.hid hb6
      clear k0' k3 k6 x0' x6 hb6
      go_wp2_with fail
      go_loopw [71] (fun i wr => ∃ m : Nat, i = .int .i64 m ∧ m ≤ n ∧ Below w9c.heap.size w9c wr) (fun i _ => n - (intOf i).toNat)
      case atStart => exact ⟨0, rfl, Nat.zero_le _, B6.out⟩
      case round =>
        obtain ⟨m, rfl, hm, hbw⟩ := hrel
        have BW := Lib.hid hbw
        by_cases hlt : m < n
        case neg =>
          clear hbw
          go_wp2_with fail
          go_ret
          exact ⟨rfl, TH.out.low.trans (BW.out.mono TH.out.low.size)⟩
        have hkm : m < (keysJ j).length := by rw [keys_vals_len, ← hn]; exact hlt
        have hxm : m < (valsJ j).length := by rw [← hn]; exact hlt
        have hvk := TH.out.vk; have hvx := TH.out.vx
        rw [VR] at hvk hvx
        obtain ⟨kb, ko, y, ekla, hkb, hy6, hyV⟩ := hvk.2.1 m hkm
        obtain ⟨xb, xo, x, exla, hxb, hx6, hxV⟩ := hvx.2.1 m hxm
        simp only at ekla exla hkb hxb
        have HYV := Lib.hid hyV; have HXV := Lib.hid hxV
        subst ekla exla
        have y6 := hy6.below hbw hkb
        have g0 := y6.c0; have g1 := y6.c1; have g2 := y6.c2; have g3 := y6.c3; have g4 := y6.c4; have g5 := y6.c5
        have bw0 : Below w9c.heap.size w9c (wr.alloc (.cells y.arr 26)) := hbw.alloc hbw.size _
        have YB := Lib.hid (box_alloc wr y)
        have AB := Lib.hid (TH.out.a.below bw0 TH.out.a.lt)
        have X6 := Lib.hid (hx6.below bw0 hxb)
        have X3 := Lib.hid ((bw0.cell (p := ⟨Nx, 3, none⟩) ltx).trans x3)
        have LX := Lib.hid (Nat.lt_of_lt_of_le ltx bw0.size)
        have LXB := Lib.hid (Nat.lt_of_lt_of_le hxb bw0.size)
        have BW0 := Lib.hid bw0
        have CI := Lib.hid fun w' (hb : Below (wr.alloc (.cells y.arr 26)).heap.size (wr.alloc (.cells y.arr 26)) w') =>
          have hb' := BW0.out.trans (hb.mono BW0.out.size)
          have hw := TH.out.low.trans (hb'.mono TH.out.low.size)
          IIndex_cont (a := ⟨k0, h0, s0, la, ll, lc, ka, kl, kc, va, vl, vc⟩) (c := y) (w := w') (S := (· < w'.heap.size)) m hkm hxm JH.out ((VA.out w' hw).mono (fun b h => VLT.out b h w' hw)) (HYV.out.go (fun b h => hb'.block b h) (fun b h => Nat.lt_of_lt_of_le h hb'.size)) (fun b h => h)
        have CH := Lib.hid fun w' (hb : Below (wr.alloc (.cells y.arr 26)).heap.size (wr.alloc (.cells y.arr 26)) w') =>
          have hb' := BW0.out.trans (hb.mono BW0.out.size)
          have hw := TH.out.low.trans (hb'.mono TH.out.low.size)
          IHas_cont (a := ⟨k0, h0, s0, la, ll, lc, ka, kl, kc, va, vl, vc⟩) (c := y) (w := w') (S := (· < w'.heap.size)) m hkm JH.out ((VA.out w' hw).mono (fun b h => VLT.out b h w' hw)) (HYV.out.go (fun b h => hb'.block b h) (fun b h => Nat.lt_of_lt_of_le h hb'.size)) (fun b h => h)
        have GX := Lib.hid fun w' c S (hb : Below (wr.alloc (.cells y.arr 26)).heap.size (wr.alloc (.cells y.arr 26)) w') (hV : VR w' S (valsJ j)[m] c) (hS : ∀ b, S b → b < w'.heap.size) =>
          have hb' := BW0.out.trans (hb.mono BW0.out.size)
          given_value (valsJ j)[m] c x w' (· < w'.heap.size) (vals_ok JH.out _ (List.getElem_mem _)) (hV.mono hS) (HXV.out.go (fun b h => hb'.block b h) (fun b h => Nat.lt_of_lt_of_le h hb'.size)) (fun b h => h)
        generalize hxj : (valsJ j)[m] = xj at *
        clear hxj hvk hvx hy6 hyV hx6 hxV y6 bw0 k3d x3 hbw
        unfold VC.arr at YB AB X6 X3 LX LXB BW0 CI CH GX
        go_upto_region 11 with fail
        go_cut [94] (fun v wx => v = .bool false ∧ Below w9c.heap.size w9c wx)
        case first =>
          rename_i J0 K0 hJ hM
          have x3 := X3.out; have ltx := LX.out; have ltxb := LXB.out
          clear g0 g1 g2 g3 g4 g5
          refine plan_regionG 19 96 [(0, 76), (1, 77), (2, 78), (3, 79), (4, 80), (5, 81), (6, 82), (7, 83), (8, 84), (9, 85), (10, 86), (11, 87), (12, 88), (13, 89), (14, 90), (15, 91), (16, 92), (17, 93), (18, 94)] [(1, (.pointer (some ⟨w.heap.size, 0, none⟩))), (4, (.pointer (some ⟨Nx, 0, none⟩))), (6, (.int .i64 (m : Int))), (7, (.pointer (some ⟨wr.heap.size, 0, none⟩)))]
            (knIt [.v (VC.val ⟨k0, h0, s0, la, ll, lc, ka, kl, kc, va, vl, vc⟩), .v (VC.val y), .r xj, .v (.pointer (some ⟨Nx, 0, none⟩)), .v (.pointer (some ⟨Nx, 3, none⟩)), .v (.slice (some ⟨xb, xo, none⟩) n xlc), .v (.int .i64 (m : Int)), .v (.pointer (some ⟨xb, xo + m * 6, none⟩)), .v (VC.val x), .v (.bool true), .v (.bool false), .v (.bool false), .v (VC.val ⟨k0, h0, s0, la, ll, lc, ka, kl, kc, va, vl, vc⟩), .v (VC.val y), .r (.bool true), .v (VC.val {VC.nil with k := 2}), .v (.bool true), .v (.bool false), .v (.bool false)])
            (by kernel_rfl) (by kernel_rfl) rfl ?_ (knIt_st _) (knIt_none _) ?_ (knIt_one _ rfl) (knIt_rest _ 19 rfl) ?_ ?_
          · intro p hp
            simp only [List.mem_cons, List.not_mem_nil, or_false] at hp
            rcases hp with rfl | rfl | rfl | rfl <;> rfl
          · intro i o g want ho hg
            rcases i with _ | _ | _ | _ | _ | _ | _ | _ | _ | _ | _ | _ | _ | _ | _ | _ | _ | _ | _ | i
            · obtain rfl := Option.some.inj ho
              cases hg
            · obtain rfl := Option.some.inj ho
              cases hg
            · obtain rfl := Option.some.inj ho
              cases hg
            · obtain rfl := Option.some.inj ho
              cases hg
            · obtain rfl := Option.some.inj ho
              cases hg
            · obtain rfl := Option.some.inj ho
              cases hg
            · obtain rfl := Option.some.inj ho
              cases hg
            · obtain rfl := Option.some.inj ho
              cases hg
            · obtain rfl := Option.some.inj ho
              cases hg
            · obtain rfl := Option.some.inj ho
              cases hg
            · obtain rfl := Option.some.inj ho
              cases hg
            · obtain rfl := Option.some.inj ho
              cases hg
            · obtain rfl := Option.some.inj ho
              cases hg; exact ⟨rfl, 87, by simp⟩
            · obtain rfl := Option.some.inj ho
              cases hg; exact ⟨rfl, 87, by simp⟩
            · obtain rfl := Option.some.inj ho
              cases hg; exact ⟨rfl, 87, by simp⟩
            · obtain rfl := Option.some.inj ho
              cases hg; exact ⟨rfl, 87, by simp⟩
            · obtain rfl := Option.some.inj ho
              cases hg; exact ⟨rfl, 87, by simp⟩
            · obtain rfl := Option.some.inj ho
              cases hg; exact ⟨rfl, 87, by simp⟩
            · obtain rfl := Option.some.inj ho
              cases hg
            · have := (Array.getElem?_eq_some_iff.1 ho).1
              exact absurd this (Nat.not_lt.2 (Nat.le_add_left 19 i))
          · intro i o ho
            rcases i with _ | _ | _ | _ | _ | _ | _ | _ | _ | _ | _ | _ | _ | _ | _ | _ | _ | _ | _ | i
            · obtain rfl := Option.some.inj ho
              exact step_load 1 rfl rfl (by simp) AB.out (fun j φ h => by have := knIt_none _ j _ φ h; cases this)
            · obtain rfl := Option.some.inj ho
              exact step_load 7 rfl rfl (by simp) YB.out (fun j φ h => by have := knIt_none _ j _ φ h; cases this)
            · obtain rfl := Option.some.inj ho
              exact step_callR 12 #[.tmp 76, .tmp 77] _ #[VC.val ⟨k0, h0, s0, la, ll, lc, ka, kl, kc, va, vl, vc⟩, VC.val y] [(0, 76, VC.val ⟨k0, h0, s0, la, ll, lc, ka, kl, kc, va, vl, vc⟩), (1, 77, VC.val y)] (enters_of Tryz.func12 (by kernel_rfl) rfl) rfl (knIt_none _) rfl (fun p hp => by
                rcases List.mem_cons.1 hp with rfl | hp
                · exact ⟨by simp, rfl, by kernel_rfl⟩
                · obtain rfl := List.mem_singleton.1 hp; exact ⟨by simp, rfl, by kernel_rfl⟩) (fun b hu _ => by simp only [List.map_toArray, List.map_cons, List.map_nil, hu _ List.mem_cons_self, hu _ (List.mem_cons_of_mem _ List.mem_cons_self)]) (fun w' hb => CI.out w' hb)
            · obtain rfl := Option.some.inj ho
              exact step_field 30 0 4 rfl rfl (by simp) (fieldRes0 _)
            · obtain rfl := Option.some.inj ho
              exact step_field1 26 3 3 79 rfl rfl (knIt_none _) (by simp) rfl (by kernel_rfl) (fieldVal3 _)
            · obtain rfl := Option.some.inj ho
              exact step_load1 23 4 80 rfl rfl (knIt_none _) (by simp) rfl (by kernel_rfl) x3 ltx (loadValues _ _ _)
            · obtain rfl := Option.some.inj ho
              exact step_move0 6 rfl rfl (knIt_none _) (by simp)
            · obtain rfl := Option.some.inj ho
              exact step_index 5 6 81 82 hlt rfl rfl (knIt_none _) (by simp) rfl (by kernel_rfl) (by simp) rfl (by kernel_rfl)
            · obtain rfl := Option.some.inj ho
              exact step_load6 7 83 rfl rfl (knIt_none _) (by simp) rfl (by kernel_rfl) X6.out ltxb
            · obtain rfl := Option.some.inj ho
              exact step_callRV 10 2 8 78 84 _ (enters_of Tryz.func10 (by kernel_rfl) rfl) rfl (knIt_none _) rfl (by simp) (by simp) rfl rfl (by kernel_rfl) (by kernel_rfl) (fun w' c S hb hV hS => GX.out w' c S hb hV hS)
            · obtain rfl := Option.some.inj ho
              exact step_not _ 9 85 rfl rfl (knIt_none _) (by simp) rfl (by kernel_rfl)
            · obtain rfl := Option.some.inj ho
              exact step_move1 10 86 rfl rfl (knIt_none _) (by simp) rfl (by kernel_rfl)
            · obtain rfl := Option.some.inj ho
              exact step_load 1 rfl rfl (by simp) AB.out (fun j φ h => by have := knIt_none _ j _ φ h; cases this)
            · obtain rfl := Option.some.inj ho
              exact step_load 7 rfl rfl (by simp) YB.out (fun j φ h => by have := knIt_none _ j _ φ h; cases this)
            · obtain rfl := Option.some.inj ho
              exact step_callR 13 #[.tmp 88, .tmp 89] _ #[VC.val ⟨k0, h0, s0, la, ll, lc, ka, kl, kc, va, vl, vc⟩, VC.val y] [(12, 88, VC.val ⟨k0, h0, s0, la, ll, lc, ka, kl, kc, va, vl, vc⟩), (13, 89, VC.val y)] (enters_of Tryz.func13 (by kernel_rfl) rfl) rfl (knIt_none _) rfl (fun p hp => by
                rcases List.mem_cons.1 hp with rfl | hp
                · exact ⟨by simp, rfl, by kernel_rfl⟩
                · obtain rfl := List.mem_singleton.1 hp; exact ⟨by simp, rfl, by kernel_rfl⟩) (fun b hu _ => by simp only [List.map_toArray, List.map_cons, List.map_nil, hu _ List.mem_cons_self, hu _ (List.mem_cons_of_mem _ List.mem_cons_self)]) (fun w' hb => CH.out w' hb)
            · obtain rfl := Option.some.inj ho
              exact step_buildTrue rfl rfl (knIt_none _)
            · obtain rfl := Option.some.inj ho
              exact step_callRV 10 14 15 90 91 _ (enters_of Tryz.func10 (by kernel_rfl) rfl) rfl (knIt_none _) rfl (by simp) (by simp) rfl rfl (by kernel_rfl) (by kernel_rfl) (fun w' c S _ hV hS => given_value (.bool true) c _ w' S (.leafs (by simp [J.half]) (by simp [J.text, ByteArray.size]) rfl rfl) hV (VR.bool w' S true) hS)
            · obtain rfl := Option.some.inj ho
              exact step_not _ 16 92 rfl rfl (knIt_none _) (by simp) rfl (by kernel_rfl)
            · obtain rfl := Option.some.inj ho
              exact step_or 11 17 87 93 rfl rfl (knIt_none _) (by simp) rfl (by kernel_rfl) (by simp) rfl (by kernel_rfl)
            · have := (Array.getElem?_eq_some_iff.1 ho).1
              exact absurd this (Nat.not_lt.2 (Nat.le_add_left 19 i))
          · intro u S w5 hp
            have b5 := hp.low (knIt_none _)
            have e94 : u 18 = .bool false := isV_of hp (j := 18) rfl rfl
            have B5 := Lib.hid (BW0.out.trans (b5.mono BW0.out.size))
            clear hp b5
            simp only [frameOf, frameL, List.zipIdx_cons, List.zipIdx_nil, Act.put, List.setIfInBounds_toArray, List.set_cons_zero, List.set_cons_succ, Nat.zero_add, Nat.reduceAdd]
            refine hM _ _ (Met.intro (hJ _ _ ?_))
            repeat apply Exists.intro
            refine ⟨?rel, rfl⟩
            case rel => exact ⟨e94, B5.out⟩
        case rest =>
          obtain ⟨rfl, hb11⟩ := hcut
          have B11 := Lib.hid hb11
          clear hb11 g0 g1 g2 g3 g4 g5
          go_wp2_with fail
          go_roundw
          case rel => exact ⟨m + 1, by go_num, by omega, B11.out⟩
          case measure => simp [intOf]; omega
end Go.Proofs.YtjannccgfmclhaaGreatDoor
