/- impl.toGo at any right JSON value. -/
import Derived.Test.YtjannccgfmclhaaGreatDoorMapGo
namespace Go.Proofs.YtjannccgfmclhaaGreatDoor
open Go.RowKit

theorem GR.leaf {w : World} {S : Nat → Prop} {g : G} {v : Value} (h : GHead w S g v) (hl : g.list = []) (he : g.ents = []) : GR w S g v := by
  rw [GR]
  exact ⟨h, fun i hi => absurd hi (by simp [hl]), fun i hi => absurd hi (by simp [he])⟩

theorem JOK.list {j : J} (h : JOK j) {i : Nat} (hi : i < j.list.length) : JOK j.list[i] := by rw [JOK] at h; exact h.2.2.2.2.1 i hi
theorem JOK.ents {j : J} (h : JOK j) {i : Nat} (hi : i < j.ents.length) : JOK j.ents[i].2 := by rw [JOK] at h; exact h.2.2.2.2.2.2.2 i hi

theorem ToGoPost.now {w : World} {g : G} {v : Value} (h : ∀ w' S, GHead w' S g v) (hl : g.list = []) (he : g.ents = []) {o : Obj} : ToGoPost w g (.returned (.tuple #[v, .bool true])) (w.alloc o) :=
  ⟨v, rfl, GR.leaf (h _ _) hl he, (Below.refl _ _).alloc (Nat.le_refl _) _⟩

/-- A list that has been taken over whole. -/
theorem TakenList.gr {w w' : World} {N : Nat} {l : List J} (hN : w.heap.size ≤ N) (h : TakenList w N l l.length w') : GR w' (New w.heap.size w') (.arr (l.map J.g)) (.iface 40 (.slice (some ⟨N, 0, none⟩) l.length l.length)) ∧ Below w.heap.size w w' := by
  obtain ⟨xs, hxl, hA, hb, hG⟩ := h
  refine ⟨?_, hb⟩
  rw [GR]
  refine ⟨⟨some ⟨N, 0, none⟩, l.length, by simp⟩, fun i hi => ?_, fun i hi => absurd hi (by simp [G.ents])⟩
  have hi' : i < l.length := by simpa [G.list] using hi
  refine ⟨N, 0, xs[i]'(by omega), rfl, ⟨hN, hA.lt⟩, by simpa using hA.cell (i := i) (by omega), ?_⟩
  have := (hG i hi' (by omega) hi').mono (S' := New w.heap.size w') (fun b hb => hb.1)
  simpa [G.list] using this

theorem TakenMap.gr {w w' : World} {N : Nat} {m : List (ByteArray × J)} (hN : w.heap.size ≤ N) (h : TakenMap w N m m.length w') : GR w' (New w.heap.size w') (.obj (m.map fun x => (x.1, x.2.g))) (.iface 52 (.map (some N))) ∧ Below w.heap.size w w' := by
  obtain ⟨vs, hvs, hM, hb, hG⟩ := h
  have hlt := hM.lt
  obtain ⟨es, c, he, hs, hes, hn⟩ := hM
  have e1 : ((m.take m.length).map (·.1)) = m.map (·.1) := by rw [List.take_length]
  rw [e1] at hes hn
  have hfst : ((m.map (·.1)).zip vs).map (·.1) = m.map (·.1) := by rw [List.map_fst_zip]; simp [hvs]
  have hsz : es.size = m.length := by
    have := congrArg List.length hes
    simp [hvs] at this; exact this
  refine ⟨?_, hb⟩
  rw [GR]
  refine ⟨⟨N, es, c, rfl, ⟨hN, hlt⟩, he, hs, by simpa using hsz, ?_, ?_⟩, fun i hi => absurd hi (by simp [G.list]), fun i hi => ?_⟩
  · rw [hfst] at hn
    have e : (m.map fun x => (x.1, x.2.g)).map (·.1) = m.map (·.1) := by rw [List.map_map]; rfl
    rw [e]; exact hn
  · intro i hi hx
    have h1 : (es.toList.map (fun e => (e.key, e.val)))[i]'(by simpa using hx) = (es[i].key, es[i].val) := by simp
    simp only [hes] at h1
    simp at h1
    simpa using h1.1.symm
  · have hi' : i < m.length := by simpa [G.ents] using hi
    have hx : i < es.size := by omega
    have h1 : (es.toList.map (fun e => (e.key, e.val)))[i]'(by simpa using hx) = (es[i].key, es[i].val) := by simp
    simp only [hes] at h1
    simp at h1
    refine ⟨es[i], ?_, ?_⟩
    · unfold entsOf blockOf
      simp only [he]
      simp [hx]
    · rw [← h1.2]
      have := (hG i hi' (by omega)).mono (S' := New w.heap.size w') (fun b hb => hb.1)
      simpa [G.ents] using this

set_option maxHeartbeats 1000000 in
theorem toGo_any (n : Nat) : ∀ (j : J) (c : VC) (w : World) (S : Nat → Prop), SizeOf.sizeOf j ≤ n → JOK j → VR w S j c → (∀ b, S b → b < w.heap.size) → Calls Tryz.prog 16 #[c.val] w (ToGoPost w j.g) := by
  induction n with
  | zero => intro j c w S hn; cases j <;> simp at hn
  | succ n ih =>
    intro j c w S hn hok hV hS
    have hh := hV.head
    have E0 := box_alloc w c
    obtain ⟨k, h, s, la, ll, lc, ka, kl, kc, va, vl, vc⟩ := c
    have hk := hh.k; have hhf := hh.h; have hs := hh.s
    simp only at hk hhf hs
    cases j with
    | null =>
      simp only [J.kind] at hk; subst hk
      clear ih hV hh hok hn
      rw [show J.null.g = .null by rw [J.g]]
      unfold VC.val VC.arr
      go_enter Tryz.func16, Tryz.ntmps16
      go_wp2_with fail
      go_ret2
      exact ⟨_, rfl, GR.leaf rfl rfl rfl, (Below.refl _ _).alloc (Nat.le_refl _) _⟩
    | bool b =>
      rw [show (J.bool b).g = .bool b by rw [J.g]]
      cases b
      all_goals
        simp [J.kind] at hk; subst hk
        clear ih hV hh hok hn
        unfold VC.val VC.arr
        go_enter Tryz.func16, Tryz.ntmps16
        go_wp2_with fail
        go_ret2
        exact ⟨_, rfl, GR.leaf rfl rfl rfl, (Below.refl _ _).alloc (Nat.le_refl _) _⟩
    | num x =>
      simp only [J.kind] at hk; subst hk
      simp only [J.half] at hhf; subst hhf
      rw [JOK] at hok
      simp only [J.half] at hok
      obtain ⟨⟨o1, o2, o3⟩, o4⟩ := hok
      clear ih hV hh hn o4
      by_cases he : h % 2 = 0
      · rw [show (J.num h).g = .int (h / 2) by rw [J.g, if_pos he]]
        have ht : h.tmod 2 = 0 := by rw [Int.tmod_eq_emod]; split <;> omega
        have hd : h.tdiv 2 = h / 2 := by rw [Int.tdiv_eq_ediv]; split <;> omega
        have HD := Lib.hid hd
        clear he hd o3
        unfold VC.val VC.arr
        go_enter Tryz.func16, Tryz.ntmps16
        go_wp2_with fail
        go_ret2
        refine ⟨_, rfl, GR.leaf ?_ rfl rfl, (Below.refl _ _).alloc (Nat.le_refl _) _⟩
        show Value.iface 3 (.int .i64 (h.tdiv 2)) = Value.iface 3 (.int .i64 (h / 2))
        rw [HD.out]
      · rw [show (J.num h).g = .float (fb h) by rw [J.g, if_neg he]]
        have ht : ¬ h.tmod 2 = 0 := by rw [Int.tmod_eq_emod]; split <;> omega
        have hdv := div_two h (by omega) (by omega) (by omega)
        have hfb : floatBits .quo .f64 (floatOfInt .f64 h) 4611686018427387904 = some (fb h) := by
          show Ieee.double.div (FloatKind.f64.nearest h) _ = _
          unfold fb; rw [hdv]; rfl
        have hop : ∀ t w, (binOp .quo t (.float .f64 (floatOfInt .f64 h)) (.float .f64 4611686018427387904)).run Tryz.prog w = .ok (.float .f64 (fb h)) w := fun t w => run_float_arith w .quo t .f64 _ _ _ hfb
        clear he o3 hdv hfb
        unfold VC.val VC.arr
        go_enter Tryz.func16, Tryz.ntmps16
        go_wp2_with (simp only [hop])
        go_ret2
        exact ⟨_, rfl, GR.leaf rfl rfl rfl, (Below.refl _ _).alloc (Nat.le_refl _) _⟩
    | str x =>
      simp only [J.kind] at hk; subst hk
      simp only [J.text] at hs; subst hs
      rw [show (J.str s).g = .str s by rw [J.g]]
      clear ih hV hh hok hn
      unfold VC.val VC.arr
      go_enter Tryz.func16, Tryz.ntmps16
      go_wp2_with fail
      go_ret2
      exact ⟨_, rfl, GR.leaf rfl rfl rfl, (Below.refl _ _).alloc (Nat.le_refl _) _⟩
    | arr l =>
      simp only [J.kind] at hk; subst hk
      have hll := hh.ll
      simp only [J.list] at hll; subst hll
      rw [J.g_arr]
      have hb : Below w.heap.size w (w.alloc (.cells #[.int .i64 5, .int .i64 h, .string s, .slice la l.length lc, .slice ka kl kc, .slice va vl vc] 26)) := (Below.refl _ _).alloc (Nat.le_refl _) _
      have hVo := hV
      rw [VR] at hV
      rw [JOK] at hok
      have hlen : l.length ≤ 400 := hok.2.2.1
      have L := listToGo_any (S := S) (l := l) (a := la) (cap := lc) (w := w.alloc (.cells #[.int .i64 5, .int .i64 h, .string s, .slice la l.length lc, .slice ka kl kc, .slice va vl vc] 26)) hlen (fun b h => by have := hS b h; simp; omega)
        (fun i hi => by
          obtain ⟨b, o, x, h1, h2, h3, h4⟩ := hV.2.1 i hi
          exact ⟨b, o, x, h1, h2, h3.below hb (hS b h2), h4.go (fun b h => hb.block b (hS b h)) (fun _ h => h)⟩)
        (fun i hi x w' S' hx hS' => ih l[i] x w' S' (by have := sizeOf_list (.arr l) (i := i) hi; simp only [J.list] at this; omega) (hok.2.2.2.2.1 i hi) hx hS')
      have LL := Lib.hid L; have BB := Lib.hid hb
      clear ih hV hVo hh hok hn L hb hhf hs
      unfold VC.val VC.arr
      go_enter Tryz.func16, Tryz.ntmps16
      go_wp2_with fail
      refine LL.out.mono ?_
      rintro e w2 ⟨N, rfl, hN, hT⟩
      have K := hT.gr hN
      have KK := Lib.hid K
      clear hT K
      go_wp2_with fail
      go_ret2
      exact ⟨_, rfl, KK.out.1.mono (fun b hb => ⟨by have := hb.1; simp at this; omega, hb.2⟩), BB.out.trans (KK.out.2.mono (by simp))⟩
    | obj m =>
      simp only [J.kind] at hk; subst hk
      rw [J.g_obj]
      have hb : Below w.heap.size w (w.alloc (.cells #[.int .i64 6, .int .i64 h, .string s, .slice la ll lc, .slice ka kl kc, .slice va vl vc] 26)) := (Below.refl _ _).alloc (Nat.le_refl _) _
      rw [JOK] at hok
      have L := mapToGo_any (S := S) (m := m) (c := ⟨6, h, s, la, ll, lc, ka, kl, kc, va, vl, vc⟩) (w := w.alloc (.cells #[.int .i64 6, .int .i64 h, .string s, .slice la ll lc, .slice ka kl kc, .slice va vl vc] 26)) hok.2.2.2.1 (fun b h => by have := hS b h; simp; omega)
        (hV.go (fun b h => hb.block b (hS b h)) (fun _ h => h)) hok.2.2.2.2.2.2.1
        (fun i hi x w' S' hx hS' => ih m[i].2 x w' S' (by have := sizeOf_ents (.obj m) (i := i) hi; simp only [J.ents] at this; omega) (hok.2.2.2.2.2.2.2 i hi) hx hS')
      unfold VC.val VC.arr at L
      have LL := Lib.hid L; have BB := Lib.hid hb
      clear ih hV hh hok hn L hb hhf hs
      unfold VC.val VC.arr
      go_enter Tryz.func16, Tryz.ntmps16
      go_wp2_with fail
      refine LL.out.mono ?_
      rintro e w2 ⟨N, rfl, hN, hT⟩
      have K := hT.gr hN
      have KK := Lib.hid K
      clear hT K
      go_wp2_with fail
      go_ret2
      exact ⟨_, rfl, KK.out.1.mono (fun b hb => ⟨by have := hb.1; simp at this; omega, hb.2⟩), BB.out.trans (KK.out.2.mono (by simp))⟩
end Go.Proofs.YtjannccgfmclhaaGreatDoor
