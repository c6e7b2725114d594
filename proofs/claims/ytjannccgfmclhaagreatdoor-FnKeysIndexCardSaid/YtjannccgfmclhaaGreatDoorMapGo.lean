/- impl.mapToGo at the entries of any right JSON value, the keys strictly rising. -/
import Derived.Test.YtjannccgfmclhaaGreatDoorToGo
import Derived.Test.YtjannccgfmclhaaGreatDoorMap
import Derived.Sort.Walk0
import Derived.BigGuardPart
namespace Go.Proofs.YtjannccgfmclhaaGreatDoor
open Go.RowKit

theorem makeMapAny (n : Int) (w : World) : (Instr.makeMap 52 (some (.int .i64 n))).run Tryz.prog w = .ok (.map (some w.heap.size)) (w.alloc (.map #[] 0)) := by
  simp [Instr.makeMap, run_underlying Tryz.underlying52, asInt, asIntOf, Result.andThen, newObj, Sem.run]

/-- Strictly rising from each to the next: from each to all later ones. -/
theorem rising {ks : List ByteArray} (h : ∀ i (_ : i + 1 < ks.length), Op.bytesLess ks[i].toList ks[i + 1].toList = true) : ∀ (d i : Nat) (hi : i + d + 1 < ks.length), Op.bytesLess (ks[i]'(by omega)).toList ks[i + d + 1].toList = true
  | 0, i, hi => h i hi
  | d + 1, i, hi => by
    have h1 := rising h d i (by omega)
    have h2 := h (i + d + 1) (by omega)
    rw [bytesLess_eq, decide_eq_true_eq] at h1 h2 ⊢
    exact List.lt_trans h1 h2

theorem rising_ne {ks : List ByteArray} (h : ∀ i (_ : i + 1 < ks.length), Op.bytesLess ks[i].toList ks[i + 1].toList = true) {i j : Nat} (hij : i < j) (hj : j < ks.length) : ks[i]'(by omega) ≠ ks[j] := by
  have h1 := rising h (j - i - 1) i (by omega)
  have e : i + (j - i - 1) + 1 = j := by omega
  simp only [e] at h1
  intro he
  rw [he, bytesLess_eq, decide_eq_true_eq] at h1
  exact List.lt_irrefl _ h1

/-- k entries have been taken over into the map in block N. -/
def TakenMap (w : World) (N : Nat) (m : List (ByteArray × J)) (k : Nat) (wr : World) : Prop :=
  ∃ vs : List Value, vs.length = k ∧ MapAt wr N (((m.take k).map (·.1)).zip vs) ∧ Below w.heap.size w wr ∧ ∀ i (_ : i < m.length) (h : i < vs.length), GR wr (fun b => New w.heap.size wr b ∧ b ≠ N) m[i].2.g vs[i]

theorem TakenMap.step {w wr w2 w3 : World} {N : Nat} {m : List (ByteArray × J)} {k : Nat} {vs : List Value} {v : Value} (hk : k < m.length) (hNw : w.heap.size ≤ N) (hvs : vs.length = k) (hN : N < wr.heap.size) (hb : Below w.heap.size w wr)
    (hG : ∀ i (_ : i < m.length) (h : i < vs.length), GR wr (fun b => New w.heap.size wr b ∧ b ≠ N) m[i].2.g vs[i])
    (h2 : Below wr.heap.size wr w2) (hv : GR w2 (New wr.heap.size w2) m[k].2.g v) (h3 : w2.grownBy w3 (some N)) (hz : w3.heap.size = w2.heap.size)
    (hM : MapAt w3 N (((m.take k).map (·.1)).zip vs ++ [(m[k].1, v)])) : TakenMap w N m (k + 1) w3 := by
  have sz := h2.size; have szb := hb.size
  have e3 : ∀ (S : Nat → Prop), (∀ b, S b → b < w2.heap.size ∧ b ≠ N) → Same S w2 w3 := fun S hS b hSb => h3.block b (hS b hSb).1 (by have := (hS b hSb).2; intro e; cases e; exact this rfl)
  refine ⟨vs ++ [v], by simp [hvs], ?_, (hb.trans (h2.mono hb.size)).trans (below_of_grown h3 hNw (by omega)), fun i hi hx => ?_⟩
  · rw [List.take_succ_eq_append_getElem hk, List.map_append, List.map_cons, List.map_nil, List.zip_append (by simp; omega)]
    exact hM
  · rcases Nat.lt_or_ge i k with h | h
    · have e : (vs ++ [v])[i] = vs[i]'(by omega) := List.getElem_append_left (by omega)
      rw [e]
      have g := (hG i hi (by omega)).go (S' := fun b => New w.heap.size w2 b ∧ b ≠ N) (fun b hb' => h2.block b hb'.1.2) (fun b hb' => ⟨⟨hb'.1.1, by have := hb'.1.2; omega⟩, hb'.2⟩)
      exact g.go (e3 _ (fun b hb' => ⟨hb'.1.2, hb'.2⟩)) (fun b hb' => ⟨⟨hb'.1.1, by rw [hz]; exact hb'.1.2⟩, hb'.2⟩)
    · obtain rfl : i = k := by simp at hx; omega
      have e : (vs ++ [v])[i] = v := by subst hvs; simp
      rw [e]
      have g := hv.mono (S' := fun b => New w.heap.size w2 b ∧ b ≠ N) (fun b hb' => ⟨⟨by have := hb'.1; omega, hb'.2⟩, by have := hb'.1; omega⟩)
      exact g.go (e3 _ (fun b hb' => ⟨hb'.1.2, hb'.2⟩)) (fun b hb' => ⟨⟨hb'.1.1, by rw [hz]; exact hb'.1.2⟩, hb'.2⟩)

theorem mapToGo_any {S : Nat → Prop} {m : List (ByteArray × J)} {c : VC} {w : World} (hl : m.length ≤ 400) (hS : ∀ b, S b → b < w.heap.size) (hV : VR w S (.obj m) c)
    (hup : ∀ i (_ : i + 1 < m.length), Op.bytesLess m[i].1.toList m[i + 1].1.toList = true)
    (ih : ∀ i (_ : i < m.length) (x : VC) (w' : World) (S' : Nat → Prop), VR w' S' m[i].2 x → (∀ b, S' b → b < w'.heap.size) → Calls Tryz.prog 16 #[x.val] w' (ToGoPost w' m[i].2.g)) :
    Calls Tryz.prog 26 #[c.val] w fun e w' => ∃ N, e = .returned (.tuple #[.map (some N), .bool true]) ∧ w.heap.size ≤ N ∧ TakenMap w N m m.length w' := by
  have hmk := makeMapAny
  rw [VR] at hV
  obtain ⟨hh, _, hk, hv⟩ := hV
  have B1 := box_alloc w c
  have hkl1 : c.kl ≤ m.length := Nat.le_of_eq hh.kl
  have hkl2 : m.length ≤ c.kl := Nat.le_of_eq hh.kl.symm
  have hvl1 : c.vl ≤ m.length := Nat.le_of_eq hh.vl
  have hvl2 : m.length ≤ c.vl := Nat.le_of_eq hh.vl.symm
  obtain ⟨k, h, s, la, ll, lc, ka, kl, kc, va, vl, vc⟩ := c
  simp only at hkl1 hkl2 hvl1 hvl2
  have E0 := Lib.hid B1; have K0 := Lib.hid hk; have V0 := Lib.hid hv; have U0 := Lib.hid hup; have I0 := Lib.hid ih; have S0 := Lib.hid hS
  clear B1 hk hv hup ih hS hh
  unfold VC.val VC.arr
  go_enter Tryz.func26, Tryz.ntmps26
  go_wp2_with fail
  go_loopw [23] (fun i wr => ∃ j : Nat, i = .int .i64 j ∧ j ≤ m.length ∧ TakenMap w (w.heap.size + 1) m j wr ∧ Box wr w.heap.size ⟨k, h, s, la, ll, lc, ka, kl, kc, va, vl, vc⟩) (fun i _ => m.length - (intOf i).toNat)
  case atStart =>
    refine ⟨0, rfl, Nat.zero_le _, ⟨[], rfl, ?_, ((Below.refl _ _).alloc (Nat.le_refl _) _).alloc (by simp) _, fun i _ h => absurd h (Nat.not_lt_zero i)⟩, ?_⟩
    · have := MapAt.made (w.alloc (.cells #[.int .i64 k, .int .i64 h, .string s, .slice la ll lc, .slice ka kl kc, .slice va vl vc] 26))
      simpa using this
    · exact E0.out.below ((Below.refl _ _).alloc (Nat.le_refl _) _) (by simp)
  case round =>
    obtain ⟨j, rfl, hj, ⟨vs, hvs, hM, hb, hG⟩, hE⟩ := hrel
    have f4 := hE.c4; have f5 := hE.c5
    have M0 := Lib.hid hM; have B0 := Lib.hid hb; have G0 := Lib.hid hG; have X0 := Lib.hid hE; have HV := Lib.hid hvs
    clear hM hb hG hE hvs
    by_cases hlt : j < m.length
    · obtain ⟨b1, o1, hka, hb1, hkc⟩ := K0.out j hlt
      obtain ⟨b2, o2, x, hva, hb2, h6, hV⟩ := V0.out j hlt
      simp only [J.ents] at hkc hV
      subst hka; subst hva
      have hkc' := (B0.out.cell (p := ⟨b1, o1 + j, none⟩) (S0.out b1 hb1)).trans hkc
      have h6' := h6.below B0.out (S0.out b2 hb2)
      have g0 := h6'.c0; have g1 := h6'.c1; have g2 := h6'.c2; have g3 := h6'.c3; have g4 := h6'.c4; have g5 := h6'.c5
      have sz := B0.out.size
      have IH := I0.out j hlt x wr S (hV.go ((fun b hb => B0.out.block b (S0.out b hb)) : Same S w wr) (fun _ h => h)) (fun b hb => by have := S0.out b hb; omega)
      unfold VC.val VC.arr at IH
      obtain ⟨key, hkey⟩ : ∃ key, key = m[j].1 := ⟨_, rfl⟩
      rw [← hkey] at hkc'
      have IH0 := Lib.hid IH; have KE := Lib.hid hkey
      clear IH h6 h6' hV hkc hkey sz
      have hkl : j < kl := by omega
      have hvl : j < vl := by omega
      have hcase : (¬ 0 < j) ∨ (0 < j ∧ ∃ kp, wr.cell? ⟨b1, o1 + (j - 1), none⟩ = some (.string kp) ∧ Op.bytesLess kp.toList key.toList = true) := by
        rcases Nat.eq_zero_or_pos j with h0 | h0
        · exact Or.inl (by omega)
        · obtain ⟨j', rfl⟩ : ∃ x, j = x + 1 := ⟨j - 1, by omega⟩
          obtain ⟨b3, o3, hka3, _, hkc3⟩ := K0.out j' (by have : (J.obj m).ents = m := rfl; rw [this]; omega)
          simp only [Option.some.injEq, Addr.mk.injEq, and_true] at hka3
          obtain ⟨rfl, rfl⟩ := hka3
          simp only [J.ents] at hkc3
          exact Or.inr ⟨by omega, m[j'].1, (B0.out.cell (p := ⟨b1, o1 + j', none⟩) (S0.out b1 hb1)).trans hkc3, by rw [KE.out]; exact U0.out j' hlt⟩
      have hnew : key ∉ ((((m.take j).map (·.1)).zip vs).map (·.1)) := by
        intro hmem
        obtain ⟨p, hp, hpk⟩ := List.mem_map.1 hmem
        obtain ⟨i, hi, hie⟩ := List.getElem_of_mem (List.of_mem_zip (show (p.1, p.2) ∈ _ from hp)).1
        simp at hi
        simp at hie
        have := rising_ne (ks := m.map (·.1)) (by simpa using U0.out) (i := i) (j := j) (by omega) (by simpa using hlt)
        simp only [List.getElem_map] at this
        exact this (by rw [hie, hpk, KE.out])
      have NW := Lib.hid hnew
      clear hnew
      rcases hcase with hz | ⟨hz, kp, hkc3, hless⟩
      all_goals
        go_wp2_with fail
        refine IH0.out.mono ?_
        rintro e w2 ⟨v, rfl, hg, hb2⟩
        have hNr : w.heap.size + 1 < wr.heap.size := M0.out.lt
        obtain ⟨w3, hrun, hM3, hg3, hz3⟩ := (M0.out.same (hb2.block _ hNr)).update_new Tryz.underlying52 Tryz.underlying9 NW.out v
        have R := Lib.hid (TakenMap.step hlt (by omega) HV.out hNr B0.out G0.out hb2 hg hg3 hz3 (by rw [← KE.out]; exact hM3))
        have X := Lib.hid ((X0.out.below hb2 X0.out.lt).kept hg3 (by omega))
        clear hg hb2 hM3 hg3 hz3 hNr f4 f5 g0 g1 g2 g3 g4 g5 hkc'
        go_wp2_with fail
        go_roundw
        case rel => exact ⟨j + 1, by go_num, by omega, R.out, X.out⟩
        case measure => simp [intOf]; omega
    · go_wp2_with fail
      obtain rfl : j = m.length := by omega
      go_ret2
      exact ⟨_, rfl, by omega, vs, HV.out, M0.out, B0.out, G0.out⟩
end Go.Proofs.YtjannccgfmclhaaGreatDoor
