/- impl.mapToGo at the entries of any right JSON value, the keys strictly rising. impl.toGo at any right JSON value. spec.Cmp's parts at equal values: zero. spec.Cmp of two readings of one right JSON value is zero. -/
import Derived.Test.YtbdciilkapgfjaaGreatDoorM7
import Derived.Test.YtbdciilkapgfjaaGreatDoorZMap
import Derived.Sort.Walk0
import Derived.BigGuardPart
namespace Go.Proofs.YtbdciilkapgfjaaGreatDoor
open Go.RowKit

theorem makeMapAny (n : Int) (w : World) : (Instr.makeMap 43 (some (.int .i64 n))).run Tryz.prog w = .ok (.map (some w.heap.size)) (w.alloc (.map #[] 0)) := by
  simp [Instr.makeMap, run_underlying Tryz.underlying43, asInt, asIntOf, Result.andThen, newObj, Sem.run]

/-- Strictly rising from each to the next: from each to all later ones. -/
theorem rising {ks : List ByteArray} (h : ∀ i (_ : i + 1 < ks.length), Op.bytesLess ks[i].toList ks[i + 1].toList = true) : ∀ (d i : Nat) (hi : i + d + 1 < ks.length), Op.bytesLess (ks[i]'(by omega)).toList ks[i + d + 1].toList = true
  | 0, i, hi => h i hi
  | d + 1, i, hi => by
    have h1 := rising h d i (by omega)
    have h2 := h (i + d + 1) (by omega)
    rw [bytesLess_eq, decide_eq_true_eq] at h1 h2 ⊢
    exact List.lt_trans h1 h2

theorem rising_ne {ks : List ByteArray} (h : ∀ i (_ : i + 1 < ks.length), Op.bytesLess ks[i].toList ks[i + 1].toList = true) {i j : Nat} (hij : i < j) (hj : j < ks.length) : ks[i]'(by omega) ≠ ks[j] := by
  have h1 := rising h (j - i - 1) i (by omega)
  have e : i + (j - i - 1) + 1 = j := by omega
  simp only [e] at h1
  intro he
  rw [he, bytesLess_eq, decide_eq_true_eq] at h1
  exact List.lt_irrefl _ h1

/-- k entries have been taken over into the map in block N. -/
def TakenMap (w : World) (N : Nat) (m : List (ByteArray × J)) (k : Nat) (wr : World) : Prop :=
  ∃ vs : List Value, vs.length = k ∧ MapAt wr N (((m.take k).map (·.1)).zip vs) ∧ Below w.heap.size w wr ∧ ∀ i (_ : i < m.length) (h : i < vs.length), GR wr (fun b => New w.heap.size wr b ∧ b ≠ N) m[i].2.g vs[i]

theorem TakenMap.step {w wr w2 w3 : World} {N : Nat} {m : List (ByteArray × J)} {k : Nat} {vs : List Value} {v : Value} (hk : k < m.length) (hNw : w.heap.size ≤ N) (hvs : vs.length = k) (hN : N < wr.heap.size) (hb : Below w.heap.size w wr)
    (hG : ∀ i (_ : i < m.length) (h : i < vs.length), GR wr (fun b => New w.heap.size wr b ∧ b ≠ N) m[i].2.g vs[i])
    (h2 : Below wr.heap.size wr w2) (hv : GR w2 (New wr.heap.size w2) m[k].2.g v) (h3 : w2.grownBy w3 (some N)) (hz : w3.heap.size = w2.heap.size)
    (hM : MapAt w3 N (((m.take k).map (·.1)).zip vs ++ [(m[k].1, v)])) : TakenMap w N m (k + 1) w3 := by
  have sz := h2.size; have szb := hb.size
  have e3 : ∀ (S : Nat → Prop), (∀ b, S b → b < w2.heap.size ∧ b ≠ N) → Same S w2 w3 := fun S hS b hSb => h3.block b (hS b hSb).1 (by have := (hS b hSb).2; intro e; cases e; exact this rfl)
  refine ⟨vs ++ [v], by simp [hvs], ?_, (hb.trans (h2.mono hb.size)).trans (below_of_grown h3 hNw (by omega)), fun i hi hx => ?_⟩
  · rw [List.take_succ_eq_append_getElem hk, List.map_append, List.map_cons, List.map_nil, List.zip_append (by simp; omega)]
    exact hM
  · rcases Nat.lt_or_ge i k with h | h
    · have e : (vs ++ [v])[i] = vs[i]'(by omega) := List.getElem_append_left (by omega)
      rw [e]
      have g := (hG i hi (by omega)).go (S' := fun b => New w.heap.size w2 b ∧ b ≠ N) (fun b hb' => h2.block b hb'.1.2) (fun b hb' => ⟨⟨hb'.1.1, by have := hb'.1.2; omega⟩, hb'.2⟩)
      exact g.go (e3 _ (fun b hb' => ⟨hb'.1.2, hb'.2⟩)) (fun b hb' => ⟨⟨hb'.1.1, by rw [hz]; exact hb'.1.2⟩, hb'.2⟩)
    · obtain rfl : i = k := by simp at hx; omega
      have e : (vs ++ [v])[i] = v := by subst hvs; simp
      rw [e]
      have g := hv.mono (S' := fun b => New w.heap.size w2 b ∧ b ≠ N) (fun b hb' => ⟨⟨by have := hb'.1; omega, hb'.2⟩, by have := hb'.1; omega⟩)
      exact g.go (e3 _ (fun b hb' => ⟨hb'.1.2, hb'.2⟩)) (fun b hb' => ⟨⟨hb'.1.1, by rw [hz]; exact hb'.1.2⟩, hb'.2⟩)

theorem mapToGo_any {S : Nat → Prop} {m : List (ByteArray × J)} {c : VC} {w : World} (hl : m.length ≤ 400) (hS : ∀ b, S b → b < w.heap.size) (hV : VR w S (.obj m) c)
    (hup : ∀ i (_ : i + 1 < m.length), Op.bytesLess m[i].1.toList m[i + 1].1.toList = true)
    (ih : ∀ i (_ : i < m.length) (x : VC) (w' : World) (S' : Nat → Prop), VR w' S' m[i].2 x → (∀ b, S' b → b < w'.heap.size) → Calls Tryz.prog 8 #[x.val] w' (ToGoPost w' m[i].2.g)) :
    Calls Tryz.prog 14 #[c.val] w fun e w' => ∃ N, e = .returned (.tuple #[.map (some N), .bool true]) ∧ w.heap.size ≤ N ∧ TakenMap w N m m.length w' := by
  have hmk := makeMapAny
  rw [VR] at hV
  obtain ⟨hh, _, hk, hv⟩ := hV
  have B1 := box_alloc w c
  have hkl1 : c.kl ≤ m.length := Nat.le_of_eq hh.kl
  have hkl2 : m.length ≤ c.kl := Nat.le_of_eq hh.kl.symm
  have hvl1 : c.vl ≤ m.length := Nat.le_of_eq hh.vl
  have hvl2 : m.length ≤ c.vl := Nat.le_of_eq hh.vl.symm
  obtain ⟨k, h, s, la, ll, lc, ka, kl, kc, va, vl, vc⟩ := c
  simp only at hkl1 hkl2 hvl1 hvl2
  have E0 := Lib.hid B1; have K0 := Lib.hid hk; have V0 := Lib.hid hv; have U0 := Lib.hid hup; have I0 := Lib.hid ih; have S0 := Lib.hid hS
  clear B1 hk hv hup ih hS hh
  unfold VC.val VC.arr
  go_enter Tryz.func14, Tryz.ntmps14
  go_wp2_with fail
  go_loopw [23] (fun i wr => ∃ j : Nat, i = .int .i64 j ∧ j ≤ m.length ∧ TakenMap w (w.heap.size + 1) m j wr ∧ Box wr w.heap.size ⟨k, h, s, la, ll, lc, ka, kl, kc, va, vl, vc⟩) (fun i _ => m.length - (intOf i).toNat)
  case atStart =>
    refine ⟨0, rfl, Nat.zero_le _, ⟨[], rfl, ?_, ((Below.refl _ _).alloc (Nat.le_refl _) _).alloc (by simp) _, fun i _ h => absurd h (Nat.not_lt_zero i)⟩, ?_⟩
    · have := MapAt.made (w.alloc (.cells #[.int .i64 k, .int .i64 h, .string s, .slice la ll lc, .slice ka kl kc, .slice va vl vc] 26))
      simpa using this
    · exact E0.out.below ((Below.refl _ _).alloc (Nat.le_refl _) _) (by simp)
  case round =>
    obtain ⟨j, rfl, hj, ⟨vs, hvs, hM, hb, hG⟩, hE⟩ := hrel
    have f4 := hE.c4; have f5 := hE.c5
    have M0 := Lib.hid hM; have B0 := Lib.hid hb; have G0 := Lib.hid hG; have X0 := Lib.hid hE; have HV := Lib.hid hvs
    clear hM hb hG hE hvs
    by_cases hlt : j < m.length
    · obtain ⟨b1, o1, hka, hb1, hkc⟩ := K0.out j hlt
      obtain ⟨b2, o2, x, hva, hb2, h6, hV⟩ := V0.out j hlt
      simp only [J.ents] at hkc hV
      subst hka; subst hva
      have hkc' := (B0.out.cell (p := ⟨b1, o1 + j, none⟩) (S0.out b1 hb1)).trans hkc
      have h6' := h6.below B0.out (S0.out b2 hb2)
      have g0 := h6'.c0; have g1 := h6'.c1; have g2 := h6'.c2; have g3 := h6'.c3; have g4 := h6'.c4; have g5 := h6'.c5
      have sz := B0.out.size
      have IH := I0.out j hlt x wr S (hV.go ((fun b hb => B0.out.block b (S0.out b hb)) : Same S w wr) (fun _ h => h)) (fun b hb => by have := S0.out b hb; omega)
      unfold VC.val VC.arr at IH
      obtain ⟨key, hkey⟩ : ∃ key, key = m[j].1 := ⟨_, rfl⟩
      rw [← hkey] at hkc'
      have IH0 := Lib.hid IH; have KE := Lib.hid hkey
      clear IH h6 h6' hV hkc hkey sz
      have hkl : j < kl := by omega
      have hvl : j < vl := by omega
      have hcase : (¬ 0 < j) ∨ (0 < j ∧ ∃ kp, wr.cell? ⟨b1, o1 + (j - 1), none⟩ = some (.string kp) ∧ Op.bytesLess kp.toList key.toList = true) := by
        rcases Nat.eq_zero_or_pos j with h0 | h0
        · exact Or.inl (by omega)
        · obtain ⟨j', rfl⟩ : ∃ x, j = x + 1 := ⟨j - 1, by omega⟩
          obtain ⟨b3, o3, hka3, _, hkc3⟩ := K0.out j' (by have : (J.obj m).ents = m := rfl; rw [this]; omega)
          simp only [Option.some.injEq, Addr.mk.injEq, and_true] at hka3
          obtain ⟨rfl, rfl⟩ := hka3
          simp only [J.ents] at hkc3
          exact Or.inr ⟨by omega, m[j'].1, (B0.out.cell (p := ⟨b1, o1 + j', none⟩) (S0.out b1 hb1)).trans hkc3, by rw [KE.out]; exact U0.out j' hlt⟩
      have hnew : key ∉ ((((m.take j).map (·.1)).zip vs).map (·.1)) := by
        intro hmem
        obtain ⟨p, hp, hpk⟩ := List.mem_map.1 hmem
        obtain ⟨i, hi, hie⟩ := List.getElem_of_mem (List.of_mem_zip (show (p.1, p.2) ∈ _ from hp)).1
        simp at hi
        simp at hie
        have := rising_ne (ks := m.map (·.1)) (by simpa using U0.out) (i := i) (j := j) (by omega) (by simpa using hlt)
        simp only [List.getElem_map] at this
        exact this (by rw [hie, hpk, KE.out])
      have NW := Lib.hid hnew
      clear hnew
      rcases hcase with hz | ⟨hz, kp, hkc3, hless⟩
      all_goals
        go_wp2_with fail
        refine IH0.out.mono ?_
        rintro e w2 ⟨v, rfl, hg, hb2⟩
        have hNr : w.heap.size + 1 < wr.heap.size := M0.out.lt
        obtain ⟨w3, hrun, hM3, hg3, hz3⟩ := (M0.out.same (hb2.block _ hNr)).update_new Tryz.underlying43 Tryz.underlying9 NW.out v
        have R := Lib.hid (TakenMap.step hlt (by omega) HV.out hNr B0.out G0.out hb2 hg hg3 hz3 (by rw [← KE.out]; exact hM3))
        have X := Lib.hid ((X0.out.below hb2 X0.out.lt).kept hg3 (by omega))
        clear hg hb2 hM3 hg3 hz3 hNr f4 f5 g0 g1 g2 g3 g4 g5 hkc'
        go_wp2_with fail
        go_roundw
        case rel => exact ⟨j + 1, by go_num, by omega, R.out, X.out⟩
        case measure => simp [intOf]; omega
    · go_wp2_with fail
      obtain rfl : j = m.length := by omega
      go_ret2
      exact ⟨_, rfl, by omega, vs, HV.out, M0.out, B0.out, G0.out⟩
end Go.Proofs.YtbdciilkapgfjaaGreatDoor

namespace Go.Proofs.YtbdciilkapgfjaaGreatDoor
open Go.RowKit

theorem GR.leaf {w : World} {S : Nat → Prop} {g : G} {v : Value} (h : GHead w S g v) (hl : g.list = []) (he : g.ents = []) : GR w S g v := by
  rw [GR]
  exact ⟨h, fun i hi => absurd hi (by simp [hl]), fun i hi => absurd hi (by simp [he])⟩

theorem JOK.list {j : J} (h : JOK j) {i : Nat} (hi : i < j.list.length) : JOK j.list[i] := by rw [JOK] at h; exact h.2.2.2.2.1 i hi
theorem JOK.ents {j : J} (h : JOK j) {i : Nat} (hi : i < j.ents.length) : JOK j.ents[i].2 := by rw [JOK] at h; exact h.2.2.2.2.2.2.2 i hi

theorem ToGoPost.now {w : World} {g : G} {v : Value} (h : ∀ w' S, GHead w' S g v) (hl : g.list = []) (he : g.ents = []) {o : Obj} : ToGoPost w g (.returned (.tuple #[v, .bool true])) (w.alloc o) :=
  ⟨v, rfl, GR.leaf (h _ _) hl he, (Below.refl _ _).alloc (Nat.le_refl _) _⟩

/-- A list that has been taken over whole. -/
theorem TakenList.gr {w w' : World} {N : Nat} {l : List J} (hN : w.heap.size ≤ N) (h : TakenList w N l l.length w') : GR w' (New w.heap.size w') (.arr (l.map J.g)) (.iface 40 (.slice (some ⟨N, 0, none⟩) l.length l.length)) ∧ Below w.heap.size w w' := by
  obtain ⟨xs, hxl, hA, hb, hG⟩ := h
  refine ⟨?_, hb⟩
  rw [GR]
  refine ⟨⟨some ⟨N, 0, none⟩, by simp⟩, fun i hi => ?_, fun i hi => absurd hi (by simp [G.ents])⟩
  have hi' : i < l.length := by simpa [G.list] using hi
  refine ⟨N, 0, xs[i]'(by omega), rfl, ⟨hN, hA.lt⟩, by simpa using hA.cell (i := i) (by omega), by simpa using hA.fr i, ?_⟩
  have := (hG i hi' (by omega) hi').mono (S' := New w.heap.size w') (fun b hb => hb.1)
  simpa [G.list] using this

theorem TakenMap.gr {w w' : World} {N : Nat} {m : List (ByteArray × J)} (hN : w.heap.size ≤ N) (h : TakenMap w N m m.length w') : GR w' (New w.heap.size w') (.obj (m.map fun x => (x.1, x.2.g))) (.iface 43 (.map (some N))) ∧ Below w.heap.size w w' := by
  obtain ⟨vs, hvs, hM, hb, hG⟩ := h
  have hlt := hM.lt
  obtain ⟨es, c, he, hs, hes, hn⟩ := hM
  have e1 : ((m.take m.length).map (·.1)) = m.map (·.1) := by rw [List.take_length]
  rw [e1] at hes hn
  have hfst : ((m.map (·.1)).zip vs).map (·.1) = m.map (·.1) := by rw [List.map_fst_zip]; simp [hvs]
  have hsz : es.size = m.length := by
    have := congrArg List.length hes
    simp [hvs] at this; exact this
  refine ⟨?_, hb⟩
  rw [GR]
  refine ⟨⟨N, es, c, rfl, ⟨hN, hlt⟩, he, hs, by simpa using hsz, ?_, ?_⟩, fun i hi => absurd hi (by simp [G.list]), fun i hi => ?_⟩
  · rw [hfst] at hn
    have e : (m.map fun x => (x.1, x.2.g)).map (·.1) = m.map (·.1) := by rw [List.map_map]; rfl
    rw [e]; exact hn
  · intro i hi hx
    have h1 : (es.toList.map (fun e => (e.key, e.val)))[i]'(by simpa using hx) = (es[i].key, es[i].val) := by simp
    simp only [hes] at h1
    simp at h1
    simpa using h1.1.symm
  · have hi' : i < m.length := by simpa [G.ents] using hi
    have hx : i < es.size := by omega
    have h1 : (es.toList.map (fun e => (e.key, e.val)))[i]'(by simpa using hx) = (es[i].key, es[i].val) := by simp
    simp only [hes] at h1
    simp at h1
    refine ⟨es[i], ?_, ?_⟩
    · unfold entsOf blockOf
      simp only [he]
      simp [hx]
    · rw [← h1.2]
      have := (hG i hi' (by omega)).mono (S' := New w.heap.size w') (fun b hb => hb.1)
      simpa [G.ents] using this

set_option maxHeartbeats 1000000 in
theorem toGo_any (n : Nat) : ∀ (j : J) (c : VC) (w : World) (S : Nat → Prop), SizeOf.sizeOf j ≤ n → JOK j → VR w S j c → (∀ b, S b → b < w.heap.size) → Calls Tryz.prog 8 #[c.val] w (ToGoPost w j.g) := by
  induction n with
  | zero => intro j c w S hn; cases j <;> simp at hn
  | succ n ih =>
    intro j c w S hn hok hV hS
    have hh := hV.head
    have E0 := box_alloc w c
    obtain ⟨k, h, s, la, ll, lc, ka, kl, kc, va, vl, vc⟩ := c
    have hk := hh.k; have hhf := hh.h; have hs := hh.s
    simp only at hk hhf hs
    cases j with
    | null =>
      simp only [J.kind] at hk; subst hk
      clear ih hV hh hok hn
      rw [show J.null.g = .null by rw [J.g]]
      unfold VC.val VC.arr
      go_enter Tryz.func8, Tryz.ntmps8
      go_wp2_with fail
      go_ret2
      exact ⟨_, rfl, GR.leaf rfl rfl rfl, (Below.refl _ _).alloc (Nat.le_refl _) _⟩
    | bool b =>
      rw [show (J.bool b).g = .bool b by rw [J.g]]
      cases b
      all_goals
        simp [J.kind] at hk; subst hk
        clear ih hV hh hok hn
        unfold VC.val VC.arr
        go_enter Tryz.func8, Tryz.ntmps8
        go_wp2_with fail
        go_ret2
        exact ⟨_, rfl, GR.leaf rfl rfl rfl, (Below.refl _ _).alloc (Nat.le_refl _) _⟩
    | num x =>
      simp only [J.kind] at hk; subst hk
      simp only [J.half] at hhf; subst hhf
      rw [JOK] at hok
      simp only [J.half] at hok
      obtain ⟨⟨o1, o2, o3⟩, o4⟩ := hok
      clear ih hV hh hn o4
      by_cases he : h % 2 = 0
      · rw [show (J.num h).g = .int (h / 2) by rw [J.g, if_pos he]]
        have ht : h.tmod 2 = 0 := by rw [Int.tmod_eq_emod]; split <;> omega
        have hd : h.tdiv 2 = h / 2 := by rw [Int.tdiv_eq_ediv]; split <;> omega
        have HD := Lib.hid hd
        clear he hd o3
        unfold VC.val VC.arr
        go_enter Tryz.func8, Tryz.ntmps8
        go_wp2_with fail
        go_ret2
        refine ⟨_, rfl, GR.leaf ?_ rfl rfl, (Below.refl _ _).alloc (Nat.le_refl _) _⟩
        show Value.iface 3 (.int .i64 (h.tdiv 2)) = Value.iface 3 (.int .i64 (h / 2))
        rw [HD.out]
      · rw [show (J.num h).g = .float (fb h) by rw [J.g, if_neg he]]
        have ht : ¬ h.tmod 2 = 0 := by rw [Int.tmod_eq_emod]; split <;> omega
        have hdv := div_two h (by omega) (by omega) (by omega)
        have hfb : floatBits .quo .f64 (floatOfInt .f64 h) 4611686018427387904 = some (fb h) := by
          show Ieee.double.div (FloatKind.f64.nearest h) _ = _
          unfold fb; rw [hdv]; rfl
        have hop : ∀ t w, (binOp .quo t (.float .f64 (floatOfInt .f64 h)) (.float .f64 4611686018427387904)).run Tryz.prog w = .ok (.float .f64 (fb h)) w := fun t w => run_float_arith w .quo t .f64 _ _ _ hfb
        clear he o3 hdv hfb
        unfold VC.val VC.arr
        go_enter Tryz.func8, Tryz.ntmps8
        go_wp2_with (simp only [hop])
        go_ret2
        exact ⟨_, rfl, GR.leaf rfl rfl rfl, (Below.refl _ _).alloc (Nat.le_refl _) _⟩
    | str x =>
      simp only [J.kind] at hk; subst hk
      simp only [J.text] at hs; subst hs
      rw [show (J.str s).g = .str s by rw [J.g]]
      clear ih hV hh hok hn
      unfold VC.val VC.arr
      go_enter Tryz.func8, Tryz.ntmps8
      go_wp2_with fail
      go_ret2
      exact ⟨_, rfl, GR.leaf rfl rfl rfl, (Below.refl _ _).alloc (Nat.le_refl _) _⟩
    | arr l =>
      simp only [J.kind] at hk; subst hk
      have hll := hh.ll
      simp only [J.list] at hll; subst hll
      rw [J.g_arr]
      have hb : Below w.heap.size w (w.alloc (.cells #[.int .i64 5, .int .i64 h, .string s, .slice la l.length lc, .slice ka kl kc, .slice va vl vc] 26)) := (Below.refl _ _).alloc (Nat.le_refl _) _
      have hVo := hV
      rw [VR] at hV
      rw [JOK] at hok
      have hlen : l.length ≤ 400 := hok.2.2.1
      have L := listToGo_any (S := S) (l := l) (a := la) (cap := lc) (w := w.alloc (.cells #[.int .i64 5, .int .i64 h, .string s, .slice la l.length lc, .slice ka kl kc, .slice va vl vc] 26)) hlen (fun b h => by have := hS b h; simp; omega)
        (fun i hi => by
          obtain ⟨b, o, x, h1, h2, h3, h4⟩ := hV.2.1 i hi
          exact ⟨b, o, x, h1, h2, h3.below hb (hS b h2), h4.go (fun b h => hb.block b (hS b h)) (fun _ h => h)⟩)
        (fun i hi x w' S' hx hS' => ih l[i] x w' S' (by have := sizeOf_list (.arr l) (i := i) hi; simp only [J.list] at this; omega) (hok.2.2.2.2.1 i hi) hx hS')
      have LL := Lib.hid L; have BB := Lib.hid hb
      clear ih hV hVo hh hok hn L hb hhf hs
      unfold VC.val VC.arr
      go_enter Tryz.func8, Tryz.ntmps8
      go_wp2_with fail
      refine LL.out.mono ?_
      rintro e w2 ⟨N, rfl, hN, hT⟩
      have K := hT.gr hN
      have KK := Lib.hid K
      clear hT K
      go_wp2_with fail
      go_ret2
      exact ⟨_, rfl, KK.out.1.mono (fun b hb => ⟨by have := hb.1; simp at this; omega, hb.2⟩), BB.out.trans (KK.out.2.mono (by simp))⟩
    | obj m =>
      simp only [J.kind] at hk; subst hk
      rw [J.g_obj]
      have hb : Below w.heap.size w (w.alloc (.cells #[.int .i64 6, .int .i64 h, .string s, .slice la ll lc, .slice ka kl kc, .slice va vl vc] 26)) := (Below.refl _ _).alloc (Nat.le_refl _) _
      rw [JOK] at hok
      have L := mapToGo_any (S := S) (m := m) (c := ⟨6, h, s, la, ll, lc, ka, kl, kc, va, vl, vc⟩) (w := w.alloc (.cells #[.int .i64 6, .int .i64 h, .string s, .slice la ll lc, .slice ka kl kc, .slice va vl vc] 26)) hok.2.2.2.1 (fun b h => by have := hS b h; simp; omega)
        (hV.go (fun b h => hb.block b (hS b h)) (fun _ h => h)) hok.2.2.2.2.2.2.1
        (fun i hi x w' S' hx hS' => ih m[i].2 x w' S' (by have := sizeOf_ents (.obj m) (i := i) hi; simp only [J.ents] at this; omega) (hok.2.2.2.2.2.2.2 i hi) hx hS')
      unfold VC.val VC.arr at L
      have LL := Lib.hid L; have BB := Lib.hid hb
      clear ih hV hh hok hn L hb hhf hs
      unfold VC.val VC.arr
      go_enter Tryz.func8, Tryz.ntmps8
      go_wp2_with fail
      refine LL.out.mono ?_
      rintro e w2 ⟨N, rfl, hN, hT⟩
      have K := hT.gr hN
      have KK := Lib.hid K
      clear hT K
      go_wp2_with fail
      go_ret2
      exact ⟨_, rfl, KK.out.1.mono (fun b hb => ⟨by have := hb.1; simp at this; omega, hb.2⟩), BB.out.trans (KK.out.2.mono (by simp))⟩
end Go.Proofs.YtbdciilkapgfjaaGreatDoor

namespace Go.Proofs.YtbdciilkapgfjaaGreatDoor
open Go.RowKit

theorem less_irrefl (s : ByteArray) : Op.bytesLess s.toList s.toList = false := by
  rw [bytesLess_eq, decide_eq_false_iff_not]; exact List.lt_irrefl _

theorem sign_zero (w : World) : Calls Tryz.prog 27 #[.int .i64 0] w fun e w' => e = .returned (.int .i64 0) ∧ w = w' := by
  go_enter Tryz.func27, Tryz.ntmps27
  go_wp2_with fail
  go_ret
  exact ⟨rfl, rfl⟩

theorem texts_refl (s : ByteArray) (w : World) : Calls Tryz.prog 28 #[.string s, .string s] w fun e w' => e = .returned (.int .i64 0) ∧ w = w' := by
  have h := less_irrefl s
  go_enter Tryz.func28, Tryz.ntmps28
  go_wp2_with fail
  go_ret
  exact ⟨rfl, rfl⟩

/-- What a comparison of equal values leaves. -/
def ZeroPost (w : World) (e : Ending) (w' : World) : Prop := e = .returned (.int .i64 0) ∧ Below w.heap.size w w'

theorem keys_refl {S : Nat → Prop} (ks : List ByteArray) {a b : Option Addr} {ca cb : Nat} {w : World} (hl : ks.length ≤ 400) (hS : ∀ b, S b → b < w.heap.size)
    (ha : ∀ i (_ : i < ks.length), ∃ b1 o, a = some ⟨b1, o, none⟩ ∧ S b1 ∧ w.cell? ⟨b1, o + i, none⟩ = some (.string ks[i]))
    (hb : ∀ i (_ : i < ks.length), ∃ b1 o, b = some ⟨b1, o, none⟩ ∧ S b1 ∧ w.cell? ⟨b1, o + i, none⟩ = some (.string ks[i])) :
    Calls Tryz.prog 30 #[.slice a ks.length ca, .slice b ks.length cb] w (ZeroPost w) := by
  have HA := Lib.hid ha; have HB := Lib.hid hb; have HS := Lib.hid hS
  clear ha hb hS
  go_enter Tryz.func30, Tryz.ntmps30
  go_wp2_with fail
  go_loopw [5] (fun i wr => ∃ m : Nat, i = .int .i64 m ∧ m ≤ ks.length ∧ Below w.heap.size w wr) (fun i _ => ks.length - (intOf i).toNat)
  case atStart => exact ⟨0, rfl, Nat.zero_le _, Below.refl _ _⟩
  case round =>
    obtain ⟨m, rfl, hm, hbw⟩ := hrel
    have BW := Lib.hid hbw
    by_cases hlt : m < ks.length
    · obtain ⟨b1, o1, h1, h2, h3⟩ := HA.out m hlt
      obtain ⟨b2, o2, h4, h5, h6⟩ := HB.out m hlt
      subst h1; subst h4
      obtain ⟨s, hs⟩ : ∃ s, s = ks[m] := ⟨_, rfl⟩
      rw [← hs] at h3 h6
      have c1 := (hbw.cell (p := ⟨b1, o1 + m, none⟩) (HS.out _ h2)).trans h3
      have c2 := (hbw.cell (p := ⟨b2, o2 + m, none⟩) (HS.out _ h5)).trans h6
      clear hs h2 h3 h5 h6 hbw
      go_wp2_with fail
      refine wp_region_tail 8 (by kernel_rfl) (by kernel_rfl) ?_
      simp only [List.take_succ_cons, List.take_zero, List.drop_succ_cons, List.drop_zero]
      repeat (go_big_quiet_step (fail))
      refine wpQuiet_nil ?_
      go_wp2_with (go_at_call 28; refine (texts_refl _ _).mono ?_; rintro e w' ⟨rfl, rfl⟩)
      go_roundw
      case rel => exact ⟨m + 1, by go_num, by omega, BW.out.drew⟩
      case measure => simp [intOf]; omega
    · clear hbw
      go_wp2_with fail
      go_ret
      exact ⟨by simp, BW.out⟩

theorem lists_refl {S : Nat → Prop} (l : List J) {a b : Option Addr} {ca cb : Nat} {w : World} (hl : l.length ≤ 400) (hS : ∀ b, S b → b < w.heap.size)
    (ha : ∀ i (_ : i < l.length), ∃ b1 o x, a = some ⟨b1, o, none⟩ ∧ S b1 ∧ At6 w b1 (o + i * 6) x ∧ VR w S l[i] x)
    (hb : ∀ i (_ : i < l.length), ∃ b1 o x, b = some ⟨b1, o, none⟩ ∧ S b1 ∧ At6 w b1 (o + i * 6) x ∧ VR w S l[i] x)
    (ih : ∀ i (_ : i < l.length) (x y : VC) (w' : World), VR w' S l[i] x → VR w' S l[i] y → (∀ b, S b → b < w'.heap.size) → Calls Tryz.prog 18 #[x.val, y.val] w' (ZeroPost w')) :
    Calls Tryz.prog 29 #[.slice a l.length ca, .slice b l.length cb] w (ZeroPost w) := by
  have HA := Lib.hid ha; have HB := Lib.hid hb; have HS := Lib.hid hS; have HI := Lib.hid ih
  clear ha hb hS ih
  go_enter Tryz.func29, Tryz.ntmps29
  go_wp2_with fail
  go_loopw [5] (fun i wr => ∃ m : Nat, i = .int .i64 m ∧ m ≤ l.length ∧ Below w.heap.size w wr) (fun i _ => l.length - (intOf i).toNat)
  case atStart => exact ⟨0, rfl, Nat.zero_le _, Below.refl _ _⟩
  case round =>
    obtain ⟨m, rfl, hm, hbw⟩ := hrel
    have BW := Lib.hid hbw
    by_cases hlt : m < l.length
    · obtain ⟨b1, o1, x, h1, h2, h3, h3'⟩ := HA.out m hlt
      obtain ⟨b2, o2, y, h4, h5, h6, h6'⟩ := HB.out m hlt
      subst h1; subst h4
      have c1 := h3.below hbw (HS.out _ h2)
      have c2 := h6.below hbw (HS.out _ h5)
      have g0 := c1.c0; have g1 := c1.c1; have g2 := c1.c2; have g3 := c1.c3; have g4 := c1.c4; have g5 := c1.c5
      have e0 := c2.c0; have e1 := c2.c1; have e2 := c2.c2; have e3 := c2.c3; have e4 := c2.c4; have e5 := c2.c5
      have sm : Same S w wr.drew := fun b hb => hbw.block b (HS.out b hb)
      have IH := HI.out m hlt x y wr.drew (h3'.go sm (fun _ h => h)) (h6'.go sm (fun _ h => h)) (fun b hb => by have := HS.out b hb; have := hbw.size; simp; omega)
      unfold VC.val VC.arr at IH
      have I := Lib.hid IH
      clear IH sm c1 c2 h2 h3 h3' h5 h6 h6' hbw
      go_wp2_with fail
      refine wp_region_tail 8 (by kernel_rfl) (by kernel_rfl) ?_
      simp only [List.take_succ_cons, List.take_zero, List.drop_succ_cons, List.drop_zero]
      repeat (go_big_quiet_step (fail))
      refine wpQuiet_nil ?_
      go_wp2_with fail
      refine I.out.mono ?_
      rintro e w2 ⟨rfl, hb2⟩
      have B2 := Lib.hid (BW.out.drew.trans (hb2.mono (by have := BW.out.size; simpa using this)))
      clear hb2 g0 g1 g2 g3 g4 g5 e0 e1 e2 e3 e4 e5
      go_wp2_with fail
      go_roundw
      case rel => exact ⟨m + 1, by go_num, by omega, B2.out⟩
      case measure => simp [intOf]; omega
    · clear hbw
      go_wp2_with fail
      go_ret
      exact ⟨by simp, BW.out⟩
end Go.Proofs.YtbdciilkapgfjaaGreatDoor

namespace Go.Proofs.YtbdciilkapgfjaaGreatDoor
open Go.RowKit

set_option maxHeartbeats 1000000 in
theorem Cmp_refl (n : Nat) : ∀ (j : J) (a c : VC) (w : World) (S : Nat → Prop), SizeOf.sizeOf j ≤ n → JOK j → VR w S j a → VR w S j c → (∀ b, S b → b < w.heap.size) → Calls Tryz.prog 18 #[a.val, c.val] w (ZeroPost w) := by
  induction n with
  | zero => intro j a c w S hn; cases j <;> simp at hn
  | succ n ih =>
    intro j a c w S hn hok hA hC hS
    have ha := hA.head; have hc := hC.head
    have hB : ∀ o p : Obj, Below w.heap.size w ((w.alloc o).alloc p) := fun o p => ((Below.refl _ _).alloc (Nat.le_refl _) _).alloc (by simp) _
    have hS2 : ∀ o p : Obj, ∀ b, S b → b < ((w.alloc o).alloc p).heap.size := fun o p b h => by have := hS b h; simp; omega
    have sm : ∀ o p : Obj, Same S w ((w.alloc o).alloc p) := fun o p b h => (hB o p).block b (hS b h)
    have ihl : ∀ i (_ : i < j.list.length) (x y : VC) (w' : World), VR w' S j.list[i] x → VR w' S j.list[i] y → (∀ b, S b → b < w'.heap.size) → Calls Tryz.prog 18 #[x.val, y.val] w' (ZeroPost w') :=
      fun i hi x y w' hx hy hs => ih j.list[i] x y w' S (by have := sizeOf_list j hi; omega) (hok.list hi) hx hy hs
    have ihe : ∀ i (_ : i < j.ents.length) (x y : VC) (w' : World), VR w' S j.ents[i].2 x → VR w' S j.ents[i].2 y → (∀ b, S b → b < w'.heap.size) → Calls Tryz.prog 18 #[x.val, y.val] w' (ZeroPost w') :=
      fun i hi x y w' hx hy hs => ih j.ents[i].2 x y w' S (by have := sizeOf_ents j hi; omega) (hok.ents hi) hx hy hs
    rw [VR] at hA hC
    rw [JOK] at hok
    have hll := hok.2.2.1; have hel := hok.2.2.2.1
    obtain ⟨k, h, s, la, ll, lc, ka, kl, kc, va, vl, vc⟩ := a
    obtain ⟨k', h', s', la', ll', lc', ka', kl', kc', va', vl', vc'⟩ := c
    have e1 := ha.k; have e2 := hc.k; have e3 := ha.h; have e4 := hc.h; have e5 := ha.s; have e6 := hc.s; have e7 := ha.ll; have e8 := hc.ll; have e9 := ha.kl; have e10 := hc.kl; have e11 := ha.vl; have e12 := hc.vl
    simp only at e1 e2 e3 e4 e5 e6 e7 e8 e9 e10 e11 e12 hA hC
    subst e1 e2 e3 e4 e5 e6 e7 e8 e9 e10 e11 e12
    have LL := fun w' (sm' : Same S w w') (hs : ∀ b, S b → b < w'.heap.size) => lists_refl (w := w') (S := S) j.list (a := la) (b := la') (ca := lc) (cb := lc') hll hs
      (fun i hi => by obtain ⟨b, o, x, h1, h2, h3, h4⟩ := hA.2.1 i hi; exact ⟨b, o, x, h1, h2, h3.same (sm' b h2), h4.go sm' (fun _ h => h)⟩)
      (fun i hi => by obtain ⟨b, o, x, h1, h2, h3, h4⟩ := hC.2.1 i hi; exact ⟨b, o, x, h1, h2, h3.same (sm' b h2), h4.go sm' (fun _ h => h)⟩) ihl
    have KK := fun w' (sm' : Same S w w') (hs : ∀ b, S b → b < w'.heap.size) => keys_refl (w := w') (S := S) (j.ents.map (·.1)) (a := ka) (b := ka') (ca := kc) (cb := kc') (by simpa using hel) hs
      (fun i hi => by
        obtain ⟨b, o, h1, h2, h3⟩ := hA.2.2.1 i (by simpa using hi)
        exact ⟨b, o, h1, h2, by simpa using (sm'.cell h2).trans h3⟩)
      (fun i hi => by
        obtain ⟨b, o, h1, h2, h3⟩ := hC.2.2.1 i (by simpa using hi)
        exact ⟨b, o, h1, h2, by simpa using (sm'.cell h2).trans h3⟩)
    have VV := fun w' (sm' : Same S w w') (hs : ∀ b, S b → b < w'.heap.size) => lists_refl (w := w') (S := S) (j.ents.map (·.2)) (a := va) (b := va') (ca := vc) (cb := vc') (by simpa using hel) hs
      (fun i hi => by
        obtain ⟨b, o, x, h1, h2, h3, h4⟩ := hA.2.2.2 i (by simpa using hi)
        exact ⟨b, o, x, h1, h2, h3.same (sm' b h2), by simpa using h4.go sm' (fun _ h => h)⟩)
      (fun i hi => by
        obtain ⟨b, o, x, h1, h2, h3, h4⟩ := hC.2.2.2 i (by simpa using hi)
        exact ⟨b, o, x, h1, h2, h3.same (sm' b h2), by simpa using h4.go sm' (fun _ h => h)⟩)
      (fun i hi x y w' hx hy hs => ihe i (by simpa using hi) x y w' (by simpa using hx) (by simpa using hy) hs)
    simp only [List.length_map] at KK VV
    have L0 := Lib.hid LL; have K0 := Lib.hid KK; have V0 := Lib.hid VV; have S0 := Lib.hid hS; have SM := Lib.hid sm; have S2 := Lib.hid hS2; have B0 := Lib.hid hB
    have hless := less_irrefl j.text
    clear LL KK VV hS sm hS2 hB ih ihl ihe hA hC ha hc hok hn hll hel
    cases j with
    | null =>
      unfold VC.val VC.arr
      simp only [J.kind]
      go_enter Tryz.func18, Tryz.ntmps18
      go_wp2_with fail
      go_ret
      exact ⟨rfl, B0.out _ _⟩
    | bool b =>
      cases b
      all_goals
        unfold VC.val VC.arr
        simp only [J.kind, if_true, if_false, Bool.false_eq_true]
        go_enter Tryz.func18, Tryz.ntmps18
        go_wp2_with fail
        go_ret
        exact ⟨rfl, B0.out _ _⟩
    | num x =>
      unfold VC.val VC.arr
      simp only [J.kind, J.half]
      go_enter Tryz.func18, Tryz.ntmps18
      go_wp2_with (go_at_call 27; refine (sign_zero _).mono ?_; rintro e w' ⟨rfl, rfl⟩)
      go_ret
      exact ⟨rfl, B0.out _ _⟩
    | str x =>
      unfold VC.val VC.arr
      simp only [J.kind, J.text]
      go_enter Tryz.func18, Tryz.ntmps18
      go_wp2_with (go_at_call 28; refine (texts_refl _ _).mono ?_; rintro e w' ⟨rfl, rfl⟩)
      go_ret
      exact ⟨rfl, B0.out _ _⟩
    | arr l =>
      simp only [J.list] at L0
      unfold VC.val VC.arr
      simp only [J.kind, J.list]
      go_enter Tryz.func18, Tryz.ntmps18
      go_wp2_with fail
      refine (L0.out _ (SM.out _ _) (S2.out _ _)).mono ?_
      rintro e w1 ⟨rfl, hb1⟩
      have B1 := Lib.hid ((B0.out _ _).trans (hb1.mono (by simp; omega)))
      clear hb1
      go_wp2_with (go_at_call 27; refine (sign_zero _).mono ?_; rintro e w' ⟨rfl, rfl⟩)
      go_ret
      exact ⟨rfl, B1.out⟩
    | obj m =>
      simp only [J.ents] at K0 V0
      unfold VC.val VC.arr
      simp only [J.kind, J.ents]
      go_enter Tryz.func18, Tryz.ntmps18
      go_wp2_with fail
      refine (K0.out _ (SM.out _ _) (S2.out _ _)).mono ?_
      rintro e w1 ⟨rfl, hb1⟩
      have hb1' := (B0.out _ _).trans (hb1.mono (by simp; omega))
      have VV := V0.out w1 (fun b h => hb1'.block b (S0.out b h)) (fun b h => by have := S0.out b h; have := hb1'.size; omega)
      have f0 := fun o hlt => hb1.cell (p := ⟨w.heap.size, o, none⟩) hlt
      have f1 := fun o hlt => hb1.cell (p := ⟨w.heap.size + 1, o, none⟩) hlt
      have B1 := Lib.hid hb1'; have V1 := Lib.hid VV
      have q0 := (f0 5 (by simp; omega))
      have q1 := (f1 5 (by simp))
      have q2 : w1.cell? ⟨w.heap.size, 5, none⟩ = some (.slice va m.length vc) := q0.trans (by simp [World.cell?_alloc_past, World.cell?_alloc_at])
      have q3 : w1.cell? ⟨w.heap.size + 1, 5, none⟩ = some (.slice va' m.length vc') := q1.trans (by simp [World.cell?_alloc_at])
      clear hb1 hb1' VV f0 f1 q0 q1
      go_wp2_with fail
      refine V1.out.mono ?_
      rintro e w2 ⟨rfl, hb2⟩
      have B2 := Lib.hid (B1.out.trans (hb2.mono B1.out.size))
      clear hb2
      go_wp2_with (go_at_call 27; refine (sign_zero _).mono ?_; rintro e w' ⟨rfl, rfl⟩)
      go_ret
      exact ⟨rfl, B2.out⟩
end Go.Proofs.YtbdciilkapgfjaaGreatDoor
