/- A part of the proof. -/
import Derived.Test.YtfgmegfgifeaiaaGreatDoorM25
import Derived.Test.YtfgmegfgifeaiaaGreatDoorM6
import Derived.Test.YtfgmegfgifeaiaaGreatDoorZFromGo
import Derived.BigGuardPart
import Derived.LoopTactic
namespace Go.Proofs.YtfgmegfgifeaiaaGreatDoor
open Go.RowKit

/-- What spec.flat leaves: a row of its own; its values are those of the list. -/
def FlatPost (S : Nat → Prop) (w : World) (js : List J) (e : Ending) (w' : World) : Prop :=
  ∃ v xs, e = .returned v ∧ VRow w.heap.size S js v xs w' ∧ Below w.heap.size w w'

theorem VRow.below {lo : Nat} {S : Nat → Prop} {l : List J} {v : Value} {xs : List VC} {w w' : World} (h : VRow lo S l v xs w) (hb : Below w.heap.size w w') (hS : ∀ b, S b → b < w.heap.size) : VRow lo S l v xs w' :=
  h.go (row_below h.1 hb) (fun b hb' => hb.block b (hS b hb')) (fun _ h => h)

/-- The flat part of what lies ahead of an element, and of the element. -/
def flatTake (l : List J) (m : Nat) : List J := ((l.take m).map flatJ).flatten
theorem flatTake_zero (l : List J) : flatTake l 0 = [] := by simp [flatTake]
theorem flatTake_all (l : List J) : flatTake l l.length = flatJ (.arr l) := by rw [flatJ_arr]; simp [flatTake]
theorem flatTake_succ (l : List J) {m : Nat} (h : m < l.length) : flatTake l (m + 1) = flatTake l m ++ flatJ l[m] := by
  simp only [flatTake, List.take_add_one, List.getElem?_eq_getElem h, Option.toList_some, List.map_append, List.map_cons, List.map_nil, List.flatten_append, List.flatten_cons, List.flatten_nil, List.append_nil]
theorem flatTake_len (l : List J) (m : Nat) : (flatTake l m).length ≤ (J.arr l).n := by
  have h : (flatTake l m).length ≤ (J.arr (l.take m)).n := by
    have := flatJ_len _ (.arr (l.take m)) (Nat.le_refl _)
    rwa [flatJ_arr] at this
  have h2 : (J.arr (l.take m)).n ≤ (J.arr l).n := by
    rw [J.n_arr, J.n_arr, ← List.take_append_drop m l, List.map_append, List.sum_append]
    simp
  omega

/-- The row of what was flattened, longer by some values of S. -/
theorem VRow.grown {lo : Nat} {S : Nat → Prop} {l l' : List J} {v v' : Value} {xs ys : List VC} {w w' : World} (h : VRow lo S l v xs w) (hy : ∀ i (_ : i < l'.length) (h : i < ys.length), VR w S l'[i] ys[i]) (h2 : ys.length = l'.length)
    (hown : w'.ownsRow lo 26 6 v' (xs.length + ys.length) (cellsOf xs ++ cellsOf ys)) (hg : w.grownBy w' v.ownBlock) (hS : ∀ b, S b → b < lo) (hlo : lo ≤ w.heap.size) : VRow lo S (l ++ l') v' (xs ++ ys) w' := by
  have hsame : Same S w w' := fun b hb => hg.block b (Nat.lt_of_lt_of_le (hS b hb) hlo) (fun e => by have := (h.1.lt b e.symm).1; have := hS b hb; omega)
  exact VRow.append hown h.2.1 h2 (fun i hi hx => (h.2.2 i hi hx).go hsame (fun _ h => h)) (fun i hi hx => (hy i hi hx).go hsame (fun _ h => h))

set_option maxRecDepth 100000 in
set_option maxHeartbeats 1000000 in
theorem SFlat_any (n : Nat) : ∀ (l : List J) (a : Option Addr) (cap : Nat) (w : World) (S : Nat → Prop) (d : Int), SizeOf.sizeOf (J.arr l) ≤ n → (J.arr l).n ≤ 400 → d ≤ -1 → -1000 ≤ d - (J.arr l).n →
    (∀ b, S b → b < w.heap.size) → (∀ i (_ : i < l.length), ∃ b o x, a = some ⟨b, o, none⟩ ∧ S b ∧ At6 w b (o + i * 6) x ∧ VR w S l[i] x) →
    Calls Tryz.prog 51 #[.slice a l.length cap, .int .i64 d] w (FlatPost S w (flatJ (.arr l))) := by
  induction n with
  | zero => intro l a cap w S d hn; simp at hn
  | succ n ih =>
    intro l a cap w S d hn h400 hd1 hd2 hS helem
    obtain ⟨i0, hi, hz0, hz1, hz2⟩ := info_parts info_value
    have hll := J.len_le l
    have hlen : l.length ≤ 400 := by omega
    have he := Lib.hid helem; have IHH := Lib.hid ih; have HS := Lib.hid hS; have HN := Lib.hid hn; have H4 := Lib.hid h400; have HD := Lib.hid hd2; have HL := Lib.hid (fun m => Nat.le_trans (flatTake_len l m) h400)
    have I0 := Lib.hid hi; have I1 := Lib.hid hz0; have I2 := Lib.hid hz1; have I3 := Lib.hid hz2
    have hd3 : -1000 ≤ d := by omega
    have hd0 : ¬ d = 0 := by omega
    clear helem ih hS hi hz0 hz1 hz2 hn h400 hd2 hll
    go_enter Tryz.func51, Tryz.ntmps51
    go_wp2_with fail
    go_loopw [5, 10] (fun out i wr => ∃ (m : Nat) (xs : List VC) (la : Option Addr) (lc : Nat), out = .slice la xs.length lc ∧ i = .int .i64 m ∧ m ≤ l.length ∧ VRow w.heap.size S (flatTake l m) out xs wr ∧ Below w.heap.size w wr) (fun _ i _ => l.length - (intOf i).toNat)
    case atStart => exact ⟨0, [], none, 0, rfl, rfl, Nat.zero_le _, by rw [flatTake_zero]; exact VRow.nil _ _ _, Below.refl _ _⟩
    case round =>
      obtain ⟨m, xs, la, lc, rfl, rfl, hm, hG, hb⟩ := hrel
      have hx400 : xs.length ≤ 400 := by have := HL.out m; have := hG.2.1; omega
      have GG := Lib.hid hG; have WB := Lib.hid hb
      clear hG hb
      by_cases hlt : m < l.length
      · obtain ⟨b1, o1, x, ha, hb1, h6, hV⟩ := he.out m hlt
        subst ha
        have h6' := h6.below WB.out (HS.out b1 hb1)
        have g0 := h6'.c0; have g1 := h6'.c1; have g2 := h6'.c2; have g3 := h6'.c3; have g4 := h6'.c4; have g5 := h6'.c5
        have V0 := Lib.hid (hV.go ((fun b hb => WB.out.block b (HS.out b hb)) : Same S w wr) (fun _ h => h))
        have sz := WB.out.size
        clear h6 h6' hV
        obtain ⟨l', hj⟩ | hj : (∃ l', l[m] = .arr l') ∨ ∀ l', l[m] ≠ .arr l' := by cases l[m] <;> simp
        · have hh := V0.out.head
          have hk := hh.k; have hll' := hh.ll
          rw [hj] at hk hll'
          simp only [J.kind, J.list] at hk hll'
          obtain ⟨k, h, s, la', ll', lc', ka, kl, kc, va, vl, vc⟩ := x
          simp only at hk hll' g0 g1 g2 g3 g4 g5
          subst hk hll'
          have hV' := V0.out
          rw [hj, VR] at hV'
          have hEl := hV'.2.1
          have hmem : (J.arr l') ∈ l := by rw [← hj]; exact List.getElem_mem hlt
          have hnn := J.n_mem hmem
          have hsz' := List.sizeOf_lt_of_mem hmem
          have hl4 : l'.length ≤ 400 := by have := H4.out; have := J.len_le l'; omega
          have hfl := flatJ_len _ (.arr l') (Nat.le_refl _)
          have hfl4 : (flatJ (.arr l')).length ≤ 400 := by have := H4.out; omega
          have hb1 : Below wr.heap.size wr (wr.alloc (.cells #[.int .i64 5, .int .i64 h, .string s, .slice la' l'.length lc', .slice ka kl kc, .slice va vl vc] 26)) := (Below.refl _ _).alloc (Nat.le_refl _) _
          have IH := Lib.hid (IHH.out l' la' lc' (wr.alloc (.cells #[.int .i64 5, .int .i64 h, .string s, .slice la' l'.length lc', .slice ka kl kc, .slice va vl vc] 26)) S (d - 1) (by have := HN.out; simp only [J.arr.sizeOf_spec] at this hsz' ⊢; omega) (by have := H4.out; omega) (by omega) (by have := HD.out; omega)
            (fun b hb => by have := HS.out b hb; simp; omega)
            (fun i hi => by
              obtain ⟨b, o, x, h1, h2, h3, h4⟩ := hEl i hi
              exact ⟨b, o, x, h1, h2, h3.below hb1 (by have := HS.out b h2; omega), h4.go (fun b hb => hb1.block b (by have := HS.out b hb; omega)) (fun _ h => h)⟩))
          have FT := Lib.hid (flatTake_succ l hlt)
          have HJ := Lib.hid hj; have B1 := Lib.hid hb1; have F4 := Lib.hid hfl4
          clear hh hV' hEl hmem hnn hsz' hfl hb1 hj hfl4
          go_wp2_with fail
          refine IH.out.mono ?_
          rintro e w2 ⟨v2, ys, rfl, hR2, hb2⟩
          obtain ⟨a2, cap2, rfl⟩ := hR2.form
          have hy4 : ys.length ≤ 400 := by have := hR2.2.1; have := F4.out; omega
          have e2 := hR2.2.1
          rw [← e2]
          have hb2' : Below wr.heap.size wr w2 := B1.out.trans (hb2.mono B1.out.size)
          have G2 := Lib.hid (GG.out.below hb2' (fun b hb => by have := HS.out b hb; omega))
          have hr2 := hR2.1
          rw [← e2] at hr2
          simp only [World.size_alloc] at hr2
          have R2 := Lib.hid hR2; have B2 := Lib.hid hb2'; have RR := Lib.hid hr2
          clear hR2 hb2 hb2' e2 hr2
          go_wp2_with (at_builtin; refine wpList_append_row rfl _ _ 23 rfl w.heap.size 26 i0 zeroVC 6 104 Tryz.underlying23 I0.out I1.out I2.out I3.out rfl (by omega) (.slice la xs.length lc) xs.length (cellsOf xs) rfl G2.out.1 (.slice a2 ys.length cap2) ys.length (wr.heap.size + 1) (cellsOf ys) rfl RR.out (cells_one ys) (by unfold maxLen; omega) (by omega) (by have := B2.out.size; omega) ?_; intro v3 w3 hown3 hgrow hat; obtain ⟨a3, cap3, rfl⟩ := row_form hown3; have OW := Lib.hid hown3; have GW := Lib.hid hgrow; clear hown3 hgrow hat)
          go_roundw
          case rel =>
            have hfin := G2.out.grown R2.out.2.2 R2.out.2.1 OW.out GW.out HS.out (by have := B2.out.size; omega)
            rw [← HJ.out, ← FT.out] at hfin
            refine ⟨m + 1, xs ++ ys, a3, cap3, by simp, by go_num, by omega, by simpa using hfin, ?_⟩
            exact (WB.out.trans (B2.out.mono WB.out.size)).grown GW.out (by have := WB.out.size; have := B2.out.size; omega) (fun k hk => (G2.out.1.lt k hk).1)
          case measure => simp [intOf]; omega
        · have hk : ¬ x.k = 5 := by
            have := V0.out.head.k
            rw [this]
            cases hq : l[m] with
            | arr l' => exact absurd hq (hj l')
            | bool b => cases b <;> simp [J.kind]
            | _ => simp [J.kind]
          have FT := Lib.hid (flatTake_succ l hlt)
          have HJ := Lib.hid (flatJ_other l[m] hj)
          clear hj
          obtain ⟨k9, h9, s9, la9, ll9, lc9, ka9, kl9, kc9, va9, vl9, vc9⟩ := x
          simp only at hk g0 g1 g2 g3 g4 g5
          go_wp2_with (at_builtin; refine wpList_append_lies _ rfl _ _ 23 rfl w.heap.size 26 i0 zeroVC 6 104 Tryz.underlying23 I0.out I1.out I2.out I3.out rfl (by omega) (.slice la xs.length lc) xs.length (cellsOf xs) rfl ((GG.out.1.alloc _).alloc _) ⟨wr.heap.size + 1, 0, none⟩ 1 1 (VC.arr ⟨k9, h9, s9, la9, ll9, lc9, ka9, kl9, kc9, va9, vl9, vc9⟩).toList rfl rfl (news_two wr _ _ _) (arr_cells _) (by omega) (by unfold maxLen; omega) (by omega) (by simp; omega) (wr.heap.size + 2) (by simp) ?_; intro g cp w3 hown3 hgrow hat hlt3; have OW := Lib.hid hown3; have GW := Lib.hid hgrow; clear hown3 hgrow hat)
          go_roundw
          case rel =>
            have hb1 : Below wr.heap.size wr ((wr.alloc (.cells (VC.arr ⟨k9, h9, s9, la9, ll9, lc9, ka9, kl9, kc9, va9, vl9, vc9⟩) 26)).alloc (.cells (VC.arr ⟨k9, h9, s9, la9, ll9, lc9, ka9, kl9, kc9, va9, vl9, vc9⟩) 26)) := ((Below.refl _ _).alloc (Nat.le_refl _) _).alloc (by simp) _
            have hS1 : ∀ b, S b → b < wr.heap.size := fun b hb => by have := HS.out b hb; omega
            have G1 := GG.out.below hb1 hS1
            have hfin := G1.grown (l' := [l[m]]) (ys := [⟨k9, h9, s9, la9, ll9, lc9, ka9, kl9, kc9, va9, vl9, vc9⟩]) (fun i hi hx => by have h0 : i = 0 := Nat.lt_one_iff.1 hi; subst h0; exact V0.out.go (fun b hb => hb1.block b (hS1 b hb)) (fun _ h => h)) rfl (by rw [cellsOf_one]; exact OW.out) GW.out HS.out (by simp; omega)
            rw [← HJ.out, ← FT.out] at hfin
            refine ⟨m + 1, xs ++ [⟨k9, h9, s9, la9, ll9, lc9, ka9, kl9, kc9, va9, vl9, vc9⟩], some ⟨g, 0, none⟩, cp, by simp, by go_num, by omega, by simpa using hfin, ?_⟩
            exact (WB.out.trans (hb1.mono WB.out.size)).grown GW.out (by simp; omega) (fun k hk => (GG.out.1.lt k hk).1)
          case measure => simp [intOf]; omega
      · obtain rfl : m = l.length := by omega
        go_wp2_with fail
        go_ret
        exact ⟨_, _, rfl, by rw [← flatTake_all]; exact GG.out, WB.out⟩
end Go.Proofs.YtfgmegfgifeaiaaGreatDoor
