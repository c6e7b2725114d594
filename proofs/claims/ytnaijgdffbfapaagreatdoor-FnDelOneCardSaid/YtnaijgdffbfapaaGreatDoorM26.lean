/- A part of the proof. A part of the proof. A part of the proof. A part of the proof. -/
import Derived.Test.YtnaijgdffbfapaaGreatDoorM22
import Derived.WideLaws
import Derived.Test.YtnaijgdffbfapaaGreatDoorZCopyM
import Derived.Test.YtnaijgdffbfapaaGreatDoorZGIdx
import Derived.Test.YtnaijgdffbfapaaGreatDoorM20
namespace Go.Proofs.YtnaijgdffbfapaaGreatDoor
open Go.RowKit

/-- A step as the package has it. -/
def stpV : Stp → Value | .idx i => .iface 3 (.int .i64 (i : Int)) | .key s => .iface 9 (.string s)
/-- A path in memory. -/
def PathIn (w : World) (p : List Stp) (a : Option Addr) : Prop := ∀ i (_ : i < p.length), ∃ b o, a = some ⟨b, o, none⟩ ∧ b < w.heap.size ∧ w.cell? ⟨b, o + i, none⟩ = some (stpV p[i])
theorem PathIn.below {w w' : World} {p : List Stp} {a : Option Addr} (h : PathIn w p a) (hb : Below w.heap.size w w') : PathIn w' p a := fun i hi => by
  obtain ⟨b, o, e, h1, h2⟩ := h i hi
  exact ⟨b, o, e, Nat.lt_of_lt_of_le h1 hb.size, (hb.cell (p := ⟨b, o + i, none⟩) h1).trans h2⟩
theorem PathIn.tail {w : World} {st : Stp} {p : List Stp} {b o : Nat} (h : PathIn w (st :: p) (some ⟨b, o, none⟩)) : PathIn w p (some ⟨b, o + 1, none⟩) := fun i hi => by
  obtain ⟨b', o', e, h1, h2⟩ := h (i + 1) (by simpa using hi)
  cases e
  exact ⟨b, o + 1, rfl, h1, by rw [show o + 1 + i = o + (i + 1) by omega]; simpa using h2⟩

/-- What update gives: the value with an empty struct at the path. -/
def UpdPost (S : Nat → Prop) (p : List Stp) (j : J) (w : World) (e : Ending) (w' : World) : Prop := ∃ u, e = .returned (.tuple #[u, .nilIface]) ∧ UR w' S w.heap.size p w'.heap.size j u ∧ Below w.heap.size w w'

theorem UR.form {w : World} {S : Nat → Prop} {lo hi : Nat} {q : List Stp} {j : J} {v : Value} (h : UR w S lo q hi j v) : ∃ t u, v = .iface t u := by
  cases q with
  | nil => exact ⟨_, _, h⟩
  | cons st q => obtain ⟨t, u, e, _⟩ := (show UR w S lo (st :: q) hi j v from h).kinds (by simp); exact ⟨t, u, e⟩

theorem allocated_any (m v : Value) (w : World) : Calls Tryz.prog 83 #[m, v] w fun e w' => e = .returned (.bool false) ∧ w = w' := by
  go_enter Tryz.func83, Tryz.ntmps83
  go_wp2_with fail
  go_ret
  exact ⟨rfl, rfl⟩
theorem makeObject_any (m : Value) (n : Int) (w : World) : Calls Tryz.prog 84 #[m, .int .i64 n] w fun e w' => e = .returned (.map (some w.heap.size)) ∧ w' = w.alloc (.map #[] 0) := by
  have hmk := makeMapAny
  go_enter Tryz.func84, Tryz.ntmps84
  go_wp2_with fail
  go_ret
  exact ⟨rfl, rfl⟩
theorem makeArray_any (m : Value) (n : Nat) (hn : n ≤ 400) (w : World) : Calls Tryz.prog 86 #[m, .int .i64 (n : Int), .int .i64 (n : Int)] w fun e w' => e = .returned (.slice (some ⟨w.heap.size, 0, none⟩) n n) ∧ w' = w.alloc (.cells (madeCells #[.nilIface] n) 20) := by
  have hmk := makeAnys n hn
  go_enter Tryz.func86, Tryz.ntmps86
  go_wp2_with fail
  go_ret
  exact ⟨rfl, rfl⟩

theorem len_mapU {w : World} {b : Nat} {m : List (ByteArray × Value)} (h : MapAt w b m) (ty : TypeId) : (Builtin.len_ #[61] ty #[.map (some b)]).run Tryz.prog w = .ok (.int .i64 m.length) w := by
  obtain ⟨es, c, h1, _, h3, _⟩ := h
  have hes : es.size = m.length := by have := congrArg List.length h3; simpa using this
  rw [run_len_map w 61 ty b es c (by kernel_rfl) h1, hes]
  rfl

set_option maxRecDepth 100000 in
theorem updateObject_any {S : Nat → Prop} {q : List Stp} {b : Nat} {s : ByteArray} {m : List (ByteArray × J)} {mv : List (ByteArray × Value)} {x0 : J} {v0 : Value} {a' : Option Addr} {cap' : Nat} {ma : Option Nat} {w : World} (hok : JOK (.obj m)) (hS : ∀ b, S b → b < w.heap.size) (hM : MapAt w b mv) (hp : (mv.map (·.1)).Perm (m.map (·.1)))
    (hmv : (s, v0) ∈ mv) (hm : (s, x0) ∈ m) (hel : ∀ k ∈ m, k.1 ≠ s → ∃ y, (k.1, y) ∈ mv ∧ GR w S k.2.g y) (ih : Calls Tryz.prog 51 #[v0, .slice a' q.length cap', .iface 102 (.agg #[]), .map ma] w (UpdPost S q x0 w)) :
    Calls Tryz.prog 64 #[.map (some b), .string s, .slice a' q.length cap', .iface 102 (.agg #[]), .map ma] w (UpdPost S (.key s :: q) (.obj m) w) := by
  have hlook := hM.lookup_hit (P := Tryz.prog) (T := 61) (K := 9) (E := 20) Tryz.underlying61 Tryz.underlying9 hmv true
  simp only [if_true] at hlook
  have IH := Lib.hid ih; have HE := Lib.hid hel; have HM := Lib.hid hM; have HP := Lib.hid hp; have HMV := Lib.hid hmv; have HM0 := Lib.hid hm; have HS := Lib.hid hS; have HOK := Lib.hid hok
  clear ih hel hM hp hmv hm hS hok
  unfold UpdPost at *
  go_enter Tryz.func64, Tryz.ntmps64
  go_wp2_with fail
  refine IH.out.mono ?_
  rintro e w1 ⟨u, rfl, hU, hb⟩
  have HU := Lib.hid hU; have HB := Lib.hid hb
  have hM1 := Lib.hid (HM.out.same (hb.block _ HM.out.lt))
  have hln := len_mapU hM1.out
  obtain ⟨t, uu, rfl⟩ := hU.form
  clear hU hb hlook
  go_wp2_with (first | (go_at_call 83; refine (allocated_any _ _ _).mono ?_; rintro e w' ⟨rfl, rfl⟩) | (go_at_call 84; refine (makeObject_any _ _ _).mono ?_; rintro e w' ⟨rfl, rfl⟩))
  have hN : MapAt (w1.alloc (.map #[] 0)) w1.heap.size [] := MapAt.made w1
  have hA : Below w1.heap.size w1 (w1.alloc (.map #[] 0)) := (Below.refl _ _).alloc (Nat.le_refl _) _
  have hM2 : MapAt (w1.alloc (.map #[] 0)) b mv := hM1.out.same (hA.block _ hM1.out.lt)
  have hlen : mv.length = m.length := by have := HP.out.length_eq; simpa using this
  have hl4 : mv.length ≤ 400 := by rw [hlen]; exact HOK.out.obj_le
  have hks : ∀ p ∈ mv, p.1.size ≤ maxLen := fun p hp => by
    obtain ⟨k, hk, e⟩ := List.mem_map.1 (HP.out.mem_iff.1 (List.mem_map.2 ⟨p, hp, rfl⟩))
    have := (HOK.out.obj_mem.2 k hk).1
    rw [← e]; unfold maxLen; omega
  have C := Lib.hid (copyM_any hN hM2 (by have := hM1.out.lt; omega) (by simp) (by omega) (by simp) hks)
  have HA := Lib.hid hA; have HLEN := Lib.hid hlen
  clear hN hA hM2 hl4 hks hln hlen
  refine C.out.mono ?_
  rintro e w2 ⟨rfl, ⟨mv1, hm1, hlaid⟩, hg⟩
  have hmem : ∀ p, p ∈ mv1 ↔ p ∈ mv := fun p => by rw [hlaid p]; simp
  obtain ⟨w3, hrun, hm3, hg3, hs3⟩ := hm1.store (P := Tryz.prog) (T := 61) (K := 9) (E := 20) Tryz.underlying61 Tryz.underlying9 ((hmem _).2 HMV.out) (.iface t uu)
  have hlow1 : ∀ k, k < w1.heap.size → w3.heap[k]? = w1.heap[k]? := fun k hk => (hg3.block k (Nat.lt_of_lt_of_le (by have := HA.out.size; omega) hg.size) (fun e => by have := Option.some.inj e; omega)).trans
    ((hg.block k (Nat.lt_of_lt_of_le hk HA.out.size) (fun e => by have := Option.some.inj e; omega)).trans (HA.out.block k hk))
  have hlt3 : w1.heap.size < w3.heap.size := hm3.lt
  have B3 : Below w.heap.size w w3 := HB.out.trans (((HA.out.mono HB.out.size).grown hg (by have := HA.out.size; have := HB.out.size; omega) (fun k hk => by have := Option.some.inj hk; have := HB.out.size; omega)).grown hg3 (by have := hg.size; have := HA.out.size; have := HB.out.size; omega) (fun k hk => by have := Option.some.inj hk; have := HB.out.size; omega))
  have nd1 : (mv1.map (·.1)).Nodup := by obtain ⟨_, _, _, _, _, h⟩ := hm1; exact h
  have nd0 : (mv.map (·.1)).Nodup := by obtain ⟨_, _, _, _, _, h⟩ := HM.out; exact h
  have perm1 : (mv1.map (·.1)).Perm (m.map (·.1)) := ((List.perm_ext_iff_of_nodup nd1 nd0).2 fun s => by
    constructor
    · intro h; obtain ⟨p, hp, rfl⟩ := List.mem_map.1 h; exact List.mem_map.2 ⟨p, (hmem p).1 hp, rfl⟩
    · intro h; obtain ⟨p, hp, rfl⟩ := List.mem_map.1 h; exact List.mem_map.2 ⟨p, (hmem p).2 hp, rfl⟩).trans HP.out
  have R : UR w3 S w.heap.size (.key s :: q) w3.heap.size (.obj m) (.iface 61 (.map (some w1.heap.size))) :=
    ⟨w1.heap.size, setAt mv1 s (.iface t uu), x0, .iface t uu, rfl, HB.out.size, hlt3, hm3, by rw [setAt_keys]; exact perm1, HM0.out, setAt_self_mem ((hmem _).2 HMV.out),
      HU.out.go (fun b hb => hlow1 b (Nat.lt_of_lt_of_le (HS.out b hb) HB.out.size)) _ (fun b _ hb => hlow1 b hb) (Nat.le_refl _), fun k hk hne => by
        obtain ⟨y, h1, h2⟩ := HE.out k hk hne
        refine ⟨y, setAt_mem ((hmem _).2 h1) hne, h2.go (fun b hb => ?_) (fun _ h => h)⟩
        have hb' := HS.out b hb
        exact (hlow1 b (Nat.lt_of_lt_of_le hb' HB.out.size)).trans (HB.out.block b hb')⟩
  have RR := Lib.hid R; have BB := Lib.hid B3
  clear hmem hm3 hg3 hs3 hlow1 hlt3 B3 nd1 nd0 perm1 R hlaid hm1 hg C
  go_wp2_with fail
  go_ret2
  exact ⟨_, rfl, RR.out, BB.out⟩

set_option maxRecDepth 100000 in
theorem updateArrayIndex_any {S : Nat → Prop} {q : List Stp} {i : Nat} {l : List J} {a : Option Addr} {x0 : J} {v0 : Value} {a' : Option Addr} {cap' : Nat} {ma : Option Nat} {w : World} (hok : JOK (.arr l)) (hS : ∀ b, S b → b < w.heap.size) (hi : i < l.length) (hx : l[i] = x0)
    (hel : ∀ k (_ : k < l.length), ∃ b o y, a = some ⟨b, o, none⟩ ∧ S b ∧ w.cell? ⟨b, o + k, none⟩ = some y ∧ GR w S l[k].g y) (hv : ∃ b o, a = some ⟨b, o, none⟩ ∧ w.cell? ⟨b, o + i, none⟩ = some v0)
    (ih : Calls Tryz.prog 51 #[v0, .slice a' q.length cap', .iface 102 (.agg #[]), .map ma] w (UpdPost S q x0 w)) :
    Calls Tryz.prog 65 #[.slice a l.length l.length, .int .i64 (i : Int), .slice a' q.length cap', .iface 102 (.agg #[]), .map ma] w (UpdPost S (.idx i :: q) (.arr l) w) := by
  obtain ⟨b, o, rfl, hc⟩ := hv
  have hl4 : l.length ≤ 400 := hok.arr_le
  -- the elements as a list
  obtain ⟨ys, hyl, hys⟩ : ∃ ys : List Value, ys.length = l.length ∧ ∀ k (h : k < l.length) (h2 : k < ys.length), w.cell? ⟨b, o + k, none⟩ = some ys[k] ∧ GR w S l[k].g ys[k] ∧ S b := by
    have each : ∀ k, k < l.length → ∃ y, w.cell? ⟨b, o + k, none⟩ = some y ∧ (∀ h : k < l.length, GR w S l[k].g y) ∧ S b := fun k hk => by
      obtain ⟨b', o', y, e, h1, h2, h3⟩ := hel k hk
      cases e
      exact ⟨y, h2, fun _ => h3, h1⟩
    have main : ∀ n, n ≤ l.length → ∃ ys : List Value, ys.length = n ∧ ∀ k (h : k < l.length) (h2 : k < ys.length), w.cell? ⟨b, o + k, none⟩ = some ys[k] ∧ GR w S l[k].g ys[k] ∧ S b := by
      intro n
      induction n with
      | zero => exact fun _ => ⟨[], rfl, fun k _ h => absurd h (Nat.not_lt_zero k)⟩
      | succ n ihn =>
        intro hn
        obtain ⟨ys, h1, h2⟩ := ihn (by omega)
        obtain ⟨y, c1, c2, c3⟩ := each n (by omega)
        refine ⟨ys ++ [y], by simp [h1], fun k hk hk2 => ?_⟩
        rcases Nat.lt_or_ge k ys.length with h | h
        · rw [List.getElem_append_left h]; exact h2 k hk h
        · obtain rfl : k = n := by simp at hk2; omega
          have e : (ys ++ [y])[k]'hk2 = y := by simp [← h1]
          rw [e]; exact ⟨c1, c2 hk, c3⟩
    exact main _ (Nat.le_refl _)
  have hv0 : ys[i]? = some v0 := by
    have := (hys i hi (by omega)).1
    rw [hc] at this
    rw [List.getElem?_eq_getElem (by omega)]
    exact this.symm
  replace hx : l[i]? = some x0 := by rw [List.getElem?_eq_getElem hi, hx]
  have hSb : S b := (hys i hi (by omega)).2.2
  have hbl := hS b hSb
  have one : ∀ u ∈ ys, u.oneCell' = true := fun u hu => by
    obtain ⟨k, hk, rfl⟩ := List.getElem_of_mem hu
    rcases ((hys k (by omega) hk).2.1).form with h | ⟨t, u, h⟩ <;> rw [h] <;> rfl
  have IH := Lib.hid ih; have HY := Lib.hid hys; have HYL := Lib.hid hyl; have HV := Lib.hid hv0; have HS := Lib.hid hS; have HX := Lib.hid hx; have ONE := Lib.hid one
  clear ih hel hyl hys hv0 hS hok hx one
  unfold UpdPost at *
  go_enter Tryz.func65, Tryz.ntmps65
  go_wp2_with (go_at_call 72; refine (clampIndex_in i l.length hi _).mono ?_; rintro e w' ⟨rfl, rfl⟩)
  refine IH.out.mono ?_
  rintro e w1 ⟨u, rfl, hU, hb⟩
  have HU := Lib.hid hU; have HB := Lib.hid hb
  obtain ⟨t, uu, rfl⟩ := hU.form
  clear hU hb hc
  go_wp2_with (first | (go_at_call 83; refine (allocated_any _ _ _).mono ?_; rintro e w' ⟨rfl, rfl⟩) | (go_at_call 86; refine (makeArray_any _ l.length hl4 _).mono ?_; rintro e w' ⟨rfl, rfl⟩))
  obtain ⟨W1, hW1⟩ : ∃ W1, W1 = w1.alloc (.cells (madeCells #[.nilIface] l.length) 20) := ⟨_, rfl⟩
  rw [← hW1]
  have hA : Arr W1 w1.heap.size 20 (List.replicate l.length .nilIface) := by rw [hW1]; exact arr_made w1 _
  have hAb : Below w1.heap.size w1 W1 := by rw [hW1]; exact (Below.refl _ _).alloc (Nat.le_refl _) _
  have hwW : Below w.heap.size w W1 := HB.out.trans (hAb.mono HB.out.size)
  obtain ⟨W2, hcopy, hg2, hgr⟩ := copyA_made (c := l.length) (a := some ⟨b, o, none⟩) (xs := ys) hA HYL.out (fun k hk => ⟨b, o, rfl, (hwW.cell (p := ⟨b, o + k, none⟩) hbl).trans (HY.out k (by rw [← HYL.out]; exact hk) hk).1⟩) ONE.out
  have hA2 : Arr W2 w1.heap.size 20 ys := hg2
  have hlow1 : ∀ k, k < w1.heap.size → W2.heap[k]? = w1.heap[k]? := fun k hk => (hgr.block k (Nat.lt_of_lt_of_le hk hAb.size) (fun e => by have := Option.some.inj e; omega)).trans (hAb.block k hk)
  have B2 : Below w.heap.size w W2 := hwW.grown hgr (by have := hAb.size; have := HB.out.size; omega) (fun k hk => by have := Option.some.inj hk; have := HB.out.size; omega)
  have c2 := hA2.cell (i := i) (by rw [HYL.out]; exact hi)
  have f2 := hA2.fr i
  have hsz : (W2.setCell ⟨w1.heap.size, i, none⟩ (.iface t uu)).heap.size = W2.heap.size := by simp [World.setCell]
  have hN2 := hA2.lt
  have hlow3 : ∀ k, k < w1.heap.size → (W2.setCell ⟨w1.heap.size, i, none⟩ (.iface t uu)).heap[k]? = w1.heap[k]? := fun k hk => (Below.heap_setCell _ _ _ _ (by simp; omega)).trans (hlow1 k hk)
  have B3 : Below w.heap.size w (W2.setCell ⟨w1.heap.size, i, none⟩ (.iface t uu)) := B2.setCell HB.out.size _
  have R : UR (W2.setCell ⟨w1.heap.size, i, none⟩ (.iface t uu)) S w.heap.size (.idx i :: q) (W2.setCell ⟨w1.heap.size, i, none⟩ (.iface t uu)).heap.size (.arr l) (.iface 58 (.slice (some ⟨w1.heap.size, 0, none⟩) l.length l.length)) :=
    ⟨w1.heap.size, ys.set i (.iface t uu), x0, .iface t uu, rfl, HB.out.size, by rw [hsz]; exact hN2, hA2.set i _, by rw [List.length_set]; exact HYL.out, HX.out, List.getElem?_set_self (by rw [HYL.out]; exact hi),
      HU.out.go (fun b hb => hlow3 b (Nat.lt_of_lt_of_le (HS.out b hb) HB.out.size)) _ (fun b _ hb => hlow3 b hb) (Nat.le_refl _), fun k jy hk hjy => by
        have hkl := (List.getElem?_eq_some_iff.1 hjy).1
        have hky : k < ys.length := by rw [HYL.out]; exact hkl
        obtain ⟨h1, h2, h3⟩ := HY.out k hkl hky
        refine ⟨ys[k], by rw [List.getElem?_set, if_neg (Ne.symm hk), List.getElem?_eq_getElem hky], ?_⟩
        rw [← (List.getElem?_eq_some_iff.1 hjy).2]
        exact h2.go (fun b hb => (hlow3 b (Nat.lt_of_lt_of_le (HS.out b hb) HB.out.size)).trans (HB.out.block b (HS.out b hb))) (fun _ h => h)⟩
  have RR := Lib.hid R; have BB := Lib.hid B3
  clear R B3 B2 hlow1 hlow3 hA hAb hwW hg2 hgr hA2 hsz hW1 hSb
  go_wp2_with (simp only [hcopy])
  go_ret2
  exact ⟨_, rfl, RR.out, BB.out⟩

set_option maxRecDepth 100000 in
set_option maxHeartbeats 4000000 in
theorem update_any : ∀ (p : List Stp) {S : Nat → Prop} {j z : J} {v : Value} {a : Option Addr} {cap : Nat} {ma : Option Nat} {w : World}, JOK j → Leads j p z → GR w S j.g v → (∀ b, S b → b < w.heap.size) → PathIn w p a → p.length ≤ cap → p.length ≤ 400 →
    Calls Tryz.prog 51 #[v, .slice a p.length cap, .iface 102 (.agg #[]), .map ma] w (UpdPost S p j w)
  | [], S, j, z, v, a, cap, ma, w, hok, hp, hG, hS, hP, hc, h4 => by
    unfold UpdPost
    have R : UR w S w.heap.size [] w.heap.size j (.iface 102 (.agg #[])) := rfl
    clear hok hp hG hS hP
    go_enter Tryz.func51, Tryz.ntmps51
    go_wp2_with fail
    go_ret2
    exact ⟨_, rfl, R, Below.refl _ _⟩
  | .key s :: q, S, .obj m, z, v, a, cap, ma, w, hok, .key (x := x0) hm hp, hG, hS, hP, hc, h4 => by
    obtain ⟨b, mv, rfl, hb, hM, hk, hlen, he⟩ := hG.objU
    obtain ⟨pb, po, rfl, hpb, hpc⟩ := hP 0 (by simp)
    have hmv : ∃ v0, (s, v0) ∈ mv ∧ GR w S x0.g v0 := by
      obtain ⟨i, hi, e⟩ := List.getElem_of_mem hm
      obtain ⟨e1, e2⟩ := he i hi (by omega)
      refine ⟨(mv[i]'(by omega)).2, ?_, by rw [e] at e2; exact e2⟩
      have := List.getElem_mem (l := mv) (n := i) (by omega)
      have e3 : (mv[i]'(by omega)).1 = s := by rw [e1, e]
      rw [← e3]; exact this
    obtain ⟨v0, hmv, hg0⟩ := hmv
    have hel : ∀ k ∈ m, k.1 ≠ s → ∃ y, (k.1, y) ∈ mv ∧ GR w S k.2.g y := fun k hk _ => by
      obtain ⟨i, hi, e⟩ := List.getElem_of_mem hk
      obtain ⟨e1, e2⟩ := he i hi (by omega)
      have := List.getElem_mem (l := mv) (n := i) (by omega)
      rw [e] at e1 e2
      exact ⟨_, by rw [← e1]; exact this, e2⟩
    obtain ⟨cap, rfl⟩ : ∃ c, cap = c + 1 := ⟨cap - 1, by simp at hc; omega⟩
    have hc' : q.length ≤ cap := by simpa using hc
    have ih : ∀ a', (cap + 1 = 1 ∨ a' = some ⟨pb, po + 1, none⟩) → Calls Tryz.prog 51 #[v0, .slice a' q.length cap, .iface 102 (.agg #[]), .map ma] w (UpdPost S q x0 w) := fun a' ha' => by
      refine update_any q (hok.obj_mem.2 _ hm).2 hp hg0 hS ?_ hc' (by simp at h4; omega)
      rcases ha' with h | rfl
      · intro i hi; omega
      · exact hP.tail
    have U := Lib.hid fun a' ha' => updateObject_any hok hS hM (by rw [hk]) hmv hm hel (ih a' ha')
    have hpc' : w.cell? ⟨pb, po, none⟩ = some (.iface 9 (.string s)) := by simpa [stpV] using hpc
    clear ih hel hmv hg0 he hk hM hG hok hP hp hm hS hpc hb hlen
    simp only [List.length_cons] at *
    unfold UpdPost at U ⊢
    by_cases hcap : cap = 0
    · subst hcap
      obtain rfl : q = [] := List.eq_nil_of_length_eq_zero (by omega)
      have U2 := Lib.hid (U.out (some ⟨pb, po, none⟩) (Or.inl rfl))
      simp only [List.length_nil] at U2
      clear U h4 hc'
      go_enter Tryz.func51, Tryz.ntmps51
      go_wp2_with fail
      refine U2.out.mono ?_
      rintro e w' ⟨u, rfl, hU, hb⟩
      obtain ⟨t, uu, rfl⟩ := hU.form
      have HU := Lib.hid hU; have HB := Lib.hid hb
      clear hU hb U2
      go_wp2_with fail
      go_ret2
      exact ⟨_, rfl, HU.out, HB.out⟩
    · have U2 := Lib.hid (U.out (some ⟨pb, po + 1, none⟩) (Or.inr rfl))
      have hcap1 : 1 ≤ cap := by omega
      clear U
      go_enter Tryz.func51, Tryz.ntmps51
      go_wp2_with fail
      refine U2.out.mono ?_
      rintro e w' ⟨u, rfl, hU, hb⟩
      obtain ⟨t, uu, rfl⟩ := hU.form
      have HU := Lib.hid hU; have HB := Lib.hid hb
      clear hU hb U2
      go_wp2_with fail
      go_ret2
      exact ⟨_, rfl, HU.out, HB.out⟩
  | .idx i :: q, S, .arr l, z, v, a, cap, ma, w, hok, .idx (i := _) hi hp, hG, hS, hP, hc, h4 => by
    obtain ⟨va, rfl, hel⟩ := hG.arrU
    obtain ⟨pb, po, rfl, hpb, hpc⟩ := hP 0 (by simp)
    obtain ⟨vb, vo, v0, rfl, _, hv0, _, hg0⟩ := hel i hi
    obtain ⟨cap, rfl⟩ : ∃ c, cap = c + 1 := ⟨cap - 1, by simp at hc; omega⟩
    have hc' : q.length ≤ cap := by simpa using hc
    have ih : ∀ a', (cap + 1 = 1 ∨ a' = some ⟨pb, po + 1, none⟩) → Calls Tryz.prog 51 #[v0, .slice a' q.length cap, .iface 102 (.agg #[]), .map ma] w (UpdPost S q l[i] w) := fun a' ha' => by
      refine update_any q (hok.arr_mem _ (List.getElem_mem hi)) hp hg0 hS ?_ hc' (by simp at h4; omega)
      rcases ha' with h | rfl
      · intro i hi; omega
      · exact hP.tail
    have U := Lib.hid fun a' ha' => updateArrayIndex_any hok hS hi rfl (fun k hk => by obtain ⟨b, o, y, e1, e2, e3, _, e4⟩ := hel k hk; exact ⟨b, o, y, e1, e2, e3, e4⟩) ⟨vb, vo, rfl, hv0⟩ (ih a' ha')
    have hpc' : w.cell? ⟨pb, po, none⟩ = some (.iface 3 (.int .i64 (i : Int))) := by simpa [stpV] using hpc
    clear ih hel hv0 hg0 hG hok hP hp hS hpc
    simp only [List.length_cons] at *
    unfold UpdPost at U ⊢
    by_cases hcap : cap = 0
    · subst hcap
      obtain rfl : q = [] := List.eq_nil_of_length_eq_zero (by omega)
      have U2 := Lib.hid (U.out (some ⟨pb, po, none⟩) (Or.inl rfl))
      simp only [List.length_nil] at U2
      clear U h4 hc'
      go_enter Tryz.func51, Tryz.ntmps51
      go_wp2_with (go_at_call 53; refine (toInt_int _ _).mono ?_; rintro e w' ⟨rfl, rfl⟩)
      refine U2.out.mono ?_
      rintro e w' ⟨u, rfl, hU, hb⟩
      obtain ⟨t, uu, rfl⟩ := hU.form
      have HU := Lib.hid hU; have HB := Lib.hid hb
      clear hU hb U2
      go_wp2_with fail
      go_ret2
      exact ⟨_, rfl, HU.out, HB.out⟩
    · have U2 := Lib.hid (U.out (some ⟨pb, po + 1, none⟩) (Or.inr rfl))
      have hcap1 : 1 ≤ cap := by omega
      clear U
      go_enter Tryz.func51, Tryz.ntmps51
      go_wp2_with (go_at_call 53; refine (toInt_int _ _).mono ?_; rintro e w' ⟨rfl, rfl⟩)
      refine U2.out.mono ?_
      rintro e w' ⟨u, rfl, hU, hb⟩
      obtain ⟨t, uu, rfl⟩ := hU.form
      have HU := Lib.hid hU; have HB := Lib.hid hb
      clear hU hb U2
      go_wp2_with fail
      go_ret2
      exact ⟨_, rfl, HU.out, HB.out⟩
end Go.Proofs.YtnaijgdffbfapaaGreatDoor

namespace Go.Proofs.YtnaijgdffbfapaaGreatDoor
open Go.RowKit

theorem UR.lower {w : World} {S : Nat → Prop} {lo lo' : Nat} (h : lo' ≤ lo) : ∀ (p : List Stp) {hi : Nat} {j : J} {v : Value}, UR w S lo p hi j v → UR w S lo' p hi j v
  | [], _, _, _, hU => hU
  | .idx i :: p, hi, j, v, hU => by
    cases j with
    | arr l =>
      obtain ⟨N, xs, jx, x, h1, h2, h3, h4, h5, h6, h7, h8, h9⟩ := hU
      exact ⟨N, xs, jx, x, h1, by omega, h3, h4, h5, h6, h7, h8.lower h p, h9⟩
    | _ => exact hU.elim
  | .key s :: p, hi, j, v, hU => by
    cases j with
    | obj m =>
      obtain ⟨N, mv, jx, x, h1, h2, h3, h4, h5, h6, h7, h8, h9⟩ := hU
      exact ⟨N, mv, jx, x, h1, by omega, h3, h4, h5, h6, h7, h8.lower h p, h9⟩
    | _ => exact hU.elim

theorem makeAlloc (w : World) : (Instr.makeMap 86 none).run Tryz.prog w = .ok (.map (some w.heap.size)) (w.alloc (.map #[] 0)) := by
  simp [Instr.makeMap, Result.andThen, newObj, Sem.run]

theorem path_of {w : World} {S : Nat → Prop} {p : List Stp} {v : Value} (h : GR w S (J.arr (p.map Stp.j)).g v) (hS : ∀ b, S b → b < w.heap.size) : ∃ a, v = .iface 58 (.slice a p.length p.length) ∧ PathIn w p a := by
  obtain ⟨a, rfl, hel⟩ := h.arrU
  refine ⟨a, by simp, fun i hi => ?_⟩
  obtain ⟨b, o, x, e, hb, hc, _, hg⟩ := hel i (by simpa using hi)
  refine ⟨b, o, e, hS b hb, ?_⟩
  rw [hc]
  have hh := hg.head
  rw [List.getElem_map] at hh
  cases hst : p[i] with
  | idx n =>
    rw [hst] at hh
    simp only [Stp.j, J.g] at hh
    rw [if_pos (by omega)] at hh
    have e : 2 * (n : Int) / 2 = n := by omega
    rw [e] at hh
    rw [hh]; rfl
  | key s =>
    rw [hst] at hh
    simp only [Stp.j, J.g] at hh
    rw [hh]; rfl

set_option maxRecDepth 100000 in
theorem delpaths_any {S : Nat → Prop} {p : List Stp} {j z : J} {v x : Value} {ma : Option Nat} {w : World} (hne : p ≠ []) (hok : JOK j) (hl : p.length ≤ 400) (hp : Leads j p z) (hG : GR w S j.g v) (hX : GR w S (J.arr [J.arr (p.map Stp.j)]).g x) (hS : ∀ b, S b → b < w.heap.size) :
    Calls Tryz.prog 43 #[v, x, .map ma] w (GIn S w (.value (delJ p j))) := by
  obtain ⟨a, rfl, hel⟩ := hX.arrU
  obtain ⟨pb, po, q, rfl, hpb, hpc, _, hpq⟩ := hel 0 (by simp)
  obtain ⟨pa, rfl, hpath⟩ := path_of (show GR w S (J.arr (p.map Stp.j)).g q from hpq) hS
  have hbl := hS pb hpb
  simp only [List.length_cons, List.length_nil, Nat.zero_add, Nat.add_zero] at hpc ⊢
  have UP := Lib.hid fun (wr : World) (hb : Below w.heap.size w wr) => update_any p (a := pa) (cap := p.length) (ma := ma) hok hp (hG.go (w' := wr) (S' := S) (fun b h => hb.block b (hS b h)) (fun _ h => h)) (fun b h => Nat.lt_of_lt_of_le (hS b h) hb.size) (hpath.below hb) (Nat.le_refl _) hl
  have HD := Lib.hid fun (u : Value) (wr : World) (lo : Nat) (hlo : lo = w.heap.size) (hU : UR wr S lo p wr.heap.size j u) => deleteEmpty_hole p hne j u wr S lo wr.heap.size hok hU (fun b h => by rw [hlo]; exact hS b h) (Nat.le_refl _)
  have HPC := Lib.hid hpc
  have form := hG.form
  clear hel hpq hpath hp hX hpc hok
  unfold UpdPost at UP
  unfold HolePost at HD
  show Calls Tryz.prog _ _ _ (fun e w' => ∃ v, e = .returned v ∧ JR w' (fun b => S b ∨ New w.heap.size w' b) (delJ p j) v ∧ Below w.heap.size w w')
  go_enter Tryz.func43, Tryz.ntmps43
  go_wp2_with fail
  have hb0 : Below w.heap.size w (w.alloc (.cells #[] 102)) := (Below.refl _ _).alloc (Nat.le_refl _) _
  have HB0 := Lib.hid hb0
  have he0 : (w.alloc (.cells #[] 102)).heap[w.heap.size]? = some (.cells #[] 102 (0, 0)) := heap_alloc_at _ _
  have HE0 := Lib.hid he0
  clear hb0 he0
  go_loopw [11, 35] (fun u z wr => ∃ k : Nat, z = .int .i64 k ∧ k ≤ 1 ∧ Below w.heap.size w wr ∧ wr.heap[w.heap.size]? = some (.cells #[] 102 (0, 0)) ∧ ((k = 0 ∧ u = v) ∨ (k = 1 ∧ UR wr S w.heap.size p wr.heap.size j u))) (fun _ z _ => 1 - (intOf z).toNat)
  case atStart => exact ⟨0, rfl, by omega, HB0.out, HE0.out, Or.inl ⟨rfl, rfl⟩⟩
  case round =>
    obtain ⟨k, rfl, hk, hb, he, hst⟩ := hrel
    have HB := Lib.hid hb; have HE := Lib.hid he; have ST := Lib.hid hst
    clear hb he hst
    by_cases hlt : k < 1
    · obtain rfl : k = 0 := by omega
      obtain rfl : u11 = v := by
        rcases ST.out with ⟨_, h⟩ | ⟨h, _⟩
        · exact h
        · omega
      have hc := (HB.out.cell (p := ⟨pb, po, none⟩) hbl).trans HPC.out
      go_wp2_with fail
      refine (UP.out _ HB.out).mono ?_
      rintro e w1 ⟨u, rfl, hU, hb1⟩
      obtain ⟨t', uu, rfl⟩ := hU.form
      have HU := Lib.hid (hU.lower HB.out.size)
      have B1 := Lib.hid (HB.out.trans (hb1.mono HB.out.size))
      have E1 := Lib.hid ((hb1.block _ (Array.getElem?_eq_some_iff.1 HE.out).1).trans HE.out)
      clear hU hb1 hc UP
      go_wp2_with fail
      go_roundw
      case rel => exact ⟨1, rfl, by omega, B1.out, E1.out, Or.inr ⟨rfl, HU.out⟩⟩
      case measure => simp [intOf]
    · obtain rfl : k = 1 := by omega
      have hU : UR wr S w.heap.size p wr.heap.size j u11 := by
        rcases ST.out with ⟨h, _⟩ | ⟨_, h⟩
        · omega
        · exact h
      have D := Lib.hid (HD.out u11 wr w.heap.size rfl hU)
      clear hU ST
      go_wp2_with fail
      refine D.out.mono ?_
      rintro e w2 ⟨v', rfl, hJ, hI⟩
      have RJ := Lib.hid (hJ.mono (S' := fun b => S b ∨ New w.heap.size w2 b) (fun b hb => hb.imp id (fun h => ⟨h.1, Nat.lt_of_lt_of_le h.2 hI.size⟩)))
      have B2 := Lib.hid (HB.out.trans (hI.below HB.out.size))
      have form2 := hJ.form
      clear hJ hI D
      rcases form2 with rfl | ⟨t', uu, rfl⟩
      all_goals
        go_wp2_with fail
        go_ret
        exact ⟨_, rfl, RJ.out, B2.out⟩

theorem funcDelpaths_any {S : Nat → Prop} {p : List Stp} {j z : J} {v x : Value} {w : World} (hne : p ≠ []) (hok : JOK j) (hl : p.length ≤ 400) (hp : Leads j p z) (hG : GR w S j.g v) (hX : GR w S (J.arr [J.arr (p.map Stp.j)]).g x) (hS : ∀ b, S b → b < w.heap.size) :
    Calls Tryz.prog 28 #[v, x] w (GIn S w (.value (delJ p j))) := by
  have hb : Below w.heap.size w (w.alloc (.map #[] 0)) := (Below.refl _ _).alloc (Nat.le_refl _) _
  have D := Lib.hid (delpaths_any (ma := some w.heap.size) hne hok hl hp (hG.go (w' := w.alloc (.map #[] 0)) (S' := S) (fun b h => hb.block b (hS b h)) (fun _ h => h)) (hX.go (w' := w.alloc (.map #[] 0)) (S' := S) (fun b h => hb.block b (hS b h)) (fun _ h => h)) (fun b h => Nat.lt_of_lt_of_le (hS b h) hb.size))
  have HB := Lib.hid hb
  have hmk := makeAlloc
  clear hG hX hS hok hp hb
  show Calls Tryz.prog _ _ _ (fun e w' => ∃ v, e = .returned v ∧ JR w' (fun b => S b ∨ New w.heap.size w' b) (delJ p j) v ∧ Below w.heap.size w w')
  go_enter Tryz.func28, Tryz.ntmps28
  go_wp2_with (simp only [hmk])
  refine D.out.mono ?_
  rintro e w2 ⟨v', rfl, hJ, hb2⟩
  have RJ := Lib.hid (hJ.mono (S' := fun b => S b ∨ New w.heap.size w2 b) (fun b hb => hb.imp id (fun h => ⟨Nat.le_trans HB.out.size h.1, h.2⟩)))
  have B2 := Lib.hid (HB.out.trans (hb2.mono HB.out.size))
  have form2 := hJ.form
  clear hJ hb2 D
  rcases form2 with rfl | ⟨t', uu, rfl⟩
  all_goals
    go_wp2_with fail
    go_ret
    exact ⟨_, rfl, RJ.out, B2.out⟩
end Go.Proofs.YtnaijgdffbfapaaGreatDoor

namespace Go.Proofs.YtnaijgdffbfapaaGreatDoor
open Go.RowKit

set_option maxRecDepth 100000 in
theorem funcGetpath_any {S : Nat → Prop} {p : List Stp} {j z : J} {v x : Value} {w : World} (hl : p.length ≤ 400) (hp : Leads j p z) (hG : GR w S j.g v) (hX : GR w S (J.arr (p.map Stp.j)).g x) (hS : ∀ b, S b → b < w.heap.size) :
    Calls Tryz.prog 29 #[v, x] w (GIn S w (.value z)) := by
  obtain ⟨pa, rfl, hpath⟩ := path_of hX hS
  show Calls Tryz.prog _ _ _ (fun e w' => ∃ v, e = .returned v ∧ JR w' (fun b => S b ∨ New w.heap.size w' b) z v ∧ Below w.heap.size w w')
  have HP := Lib.hid hpath; have HL := Lib.hid hp; have HG := Lib.hid hG
  clear hX hpath hp hG hS
  go_enter Tryz.func29, Tryz.ntmps29
  go_wp2_with fail
  go_loopw [0, 27] (fun u i wr => ∃ (k : Nat) (jk : J), i = .int .i64 k ∧ k ≤ p.length ∧ Leads jk (p.drop k) z ∧ GR w S jk.g u ∧ wr = w) (fun _ i _ => p.length - (intOf i).toNat)
  case atStart => exact ⟨0, j, rfl, Nat.zero_le _, HL.out, HG.out, rfl⟩
  case round =>
    obtain ⟨k, jk, rfl, hk, hlk, hgk, rfl⟩ := hrel
    have LK := Lib.hid hlk; have GK := Lib.hid hgk
    clear hlk hgk
    by_cases hlt : k < p.length
    · obtain ⟨b, o, rfl, hb, hc⟩ := HP.out k hlt
      have hlk := LK.out
      rw [List.drop_eq_getElem_cons hlt] at hlk
      generalize p[k] = st at hc hlk
      obtain ⟨y, jy, kinds, hlead, hidx, hgy⟩ : ∃ (y : Value) (jy : J), ((∃ sl, u0 = .iface 58 sl) ∨ ∃ mb, u0 = .iface 61 mb) ∧ Leads jy (p.drop (k + 1)) z ∧ (∀ z', Calls Tryz.prog 44 #[z', u0, stpV st] wr fun e w' => e = .returned y ∧ wr = w') ∧ GR wr S jy.g y := by
        have hgk := GK.out
        generalize p.drop (k + 1) = q at hlk
        cases hlk with
        | @idx l i _ _ hi hp' =>
          obtain ⟨a, rfl, hel⟩ := hgk.arrU
          obtain ⟨vb, vo, y, rfl, _, hcy, _, hgy⟩ := hel i hi
          exact ⟨y, _, Or.inl ⟨_, rfl⟩, hp', fun z' => funcIndex2_arr z' vb vo i l.length l.length y hi wr hcy, hgy⟩
        | @key m s x0 _ _ hm hp' =>
          obtain ⟨b', mv, rfl, _, hM, _, hlen, he⟩ := hgk.objU
          obtain ⟨i, hi, e⟩ := List.getElem_of_mem hm
          obtain ⟨e1, e2⟩ := he i hi (by omega)
          rw [e] at e1 e2
          have hmem : (s, (mv[i]'(by omega)).2) ∈ mv := by
            have := List.getElem_mem (l := mv) (n := i) (by omega)
            rw [show mv[i]'(by omega) = (s, (mv[i]'(by omega)).2) from Prod.ext e1 rfl] at this
            exact this
          exact ⟨_, x0, Or.inr ⟨_, rfl⟩, hp', fun z' => funcIndex2_map z' hM hmem, e2⟩
      have hne := fun w' => (GR.jr _ (Nat.le_refl _) hgy).noError w'
      have IX := Lib.hid hidx; have GY := Lib.hid hgy; have LY := Lib.hid hlead
      have form := hgy.form
      obtain ⟨t', uu', hst⟩ : ∃ t uu, stpV st = .iface t uu := by cases st <;> exact ⟨_, _, rfl⟩
      rw [hst] at hc IX
      clear hidx hgy hlead hlk LK GK hst
      rcases kinds with ⟨sl, rfl⟩ | ⟨mb, rfl⟩
      all_goals
        go_wp2_with fail
        refine (IX.out _).mono ?_
        rintro e w' ⟨rfl, rfl⟩
        rcases form with rfl | ⟨t, uu, rfl⟩
        all_goals
          go_wp2_with fail
          go_roundw
          case rel => exact ⟨k + 1, jy, by go_num, by omega, LY.out, GY.out, trivial⟩
          case measure => simp [intOf]; omega
    · obtain rfl : k = p.length := by omega
      have hz : jk = z := by
        have := LK.out
        rw [List.drop_length] at this
        cases this; rfl
      subst hz
      have form := GK.out.form
      rcases form with rfl | ⟨t, uu, rfl⟩
      all_goals
        go_wp2_with fail
        go_ret
        exact ⟨_, rfl, (GR.jr _ (Nat.le_refl _) GK.out).mono (fun b hb => Or.inl hb), Below.refl _ _⟩
end Go.Proofs.YtnaijgdffbfapaaGreatDoor

namespace Go.Proofs.YtnaijgdffbfapaaGreatDoor
open Go.RowKit

/-- The steps of a path are right values. -/
theorem steps_ok {j z : J} {p : List Stp} (hp : Leads j p z) (h : JOK j) : ∀ st ∈ p, JOK st.j := by
  induction hp with
  | nil => intro st hst; cases hst
  | @idx l i p y hi _ ih =>
    intro st hst
    rcases List.mem_cons.1 hst with rfl | hst
    · have := h.arr_le
      exact .leafs (by simp only [Stp.j, J.half]; omega) (by simp [Stp.j, J.text, ByteArray.size]) rfl rfl
    · exact ih (h.arr_mem _ (List.getElem_mem hi)) st hst
  | @key m s x p y hm _ ih =>
    intro st hst
    rcases List.mem_cons.1 hst with rfl | hst
    · have := (h.obj_mem.2 _ hm).1
      exact .leafs (by simp [Stp.j, J.half]) (by simp only [Stp.j, J.text]; simp only at this; omega) rfl rfl
    · exact ih (h.obj_mem.2 _ hm).2 st hst
theorem path_ok {j z : J} {p : List Stp} (hp : Leads j p z) (h : JOK j) (hl : p.length ≤ 400) : JOK (.arr (p.map Stp.j)) :=
  .arr_of (by simpa using hl) fun x hx => by
    obtain ⟨st, hst, rfl⟩ := List.mem_map.1 hx
    exact steps_ok hp h st hst
theorem paths_ok {j z : J} {p : List Stp} (hp : Leads j p z) (h : JOK j) (hl : p.length ≤ 400) : JOK (.arr [.arr (p.map Stp.j)]) :=
  .arr_of (by simp) fun x hx => by obtain rfl := List.mem_singleton.1 hx; exact path_ok hp h hl

theorem IDelPaths_del {j z : J} {p : List Stp} {a c : VC} {w : World} {S : Nat → Prop} (hne : p ≠ []) (hp : Leads j p z) (hl : p.length ≤ 400) (hj : JOK j) (ha : VR w S j a) (hc : VR w S (.arr [.arr (p.map Stp.j)]) c) (hS : ∀ b, S b → b < w.heap.size) :
    Calls Tryz.prog 7 #[a.val, c.val] w fun e w' => ∃ x, e = .returned (resVal x 0) ∧ VR w' (New w.heap.size w') (delJ p j) x ∧ Below w.heap.size w w' :=
  IDelPaths_any j (.arr [.arr (p.map Stp.j)]) (.value (delJ p j)) a c w S hj (paths_ok hp hj hl) ha hc hS (fun h => by cases h) (fun j' h => by cases h; exact JOK.jw _ (Nat.le_refl _) (delJ_jok p hp hj))
    fun _ _ _ _ g1 g2 hS1 => ZzDelPaths_hands (fun h => by cases h) (funcDelpaths_any hne hj hl hp g1 g2 hS1)

theorem IGetPath_get {j z : J} {p : List Stp} {a c : VC} {w : World} {S : Nat → Prop} (hp : Leads j p z) (hl : p.length ≤ 400) (hj : JOK j) (ha : VR w S j a) (hc : VR w S (.arr (p.map Stp.j)) c) (hS : ∀ b, S b → b < w.heap.size) :
    Calls Tryz.prog 9 #[a.val, c.val] w fun e w' => ∃ x, e = .returned (resVal x 0) ∧ VR w' (New w.heap.size w') z x ∧ Below w.heap.size w w' :=
  IGetPath_any j (.arr (p.map Stp.j)) (.value z) a c w S hj (path_ok hp hj hl) ha hc hS (fun h => by cases h) (fun j' h => by cases h; exact JOK.jw _ (Nat.le_refl _) (hp.jok hj))
    fun _ _ _ _ g1 g2 hS1 => ZzGetPath_hands (fun h => by cases h) (funcGetpath_any hl hp g1 g2 hS1)
end Go.Proofs.YtnaijgdffbfapaaGreatDoor
