/- A part of the proof. -/
import Derived.Test.YtinmcopamjjlbaaGreatDoorFloatB
import Derived.Test.YtinmcopamjjlbaaGreatDoorJR
import Derived.Test.YtinmcopamjjlbaaGreatDoorTypes
import Derived.Test.YtinmcopamjjlbaaGreatDoorSFlat
namespace Go.Proofs.YtinmcopamjjlbaaGreatDoor
open Go.RowKit

theorem dep_sub : ∀ k : Nat, k < 1000 → floatBits .sub .f64 (FloatKind.f64.nearest (-((k : Int) + 1))) 4607182418800017408 = some (FloatKind.f64.nearest (-(((k + 1 : Nat) : Int) + 1))) := by decide +kernel
theorem dep_ne : ∀ k : Nat, k < 1000 → FloatKind.f64.format.order (FloatKind.f64.nearest (-((k : Int) + 1))) 0 = some .lt := by decide +kernel
theorem dep_one : FloatKind.f64.nearest (-(((0 : Nat) : Int) + 1)) = 13830554455654793216 := by decide +kernel

/-- What 'v.([]any)' says of a value of the package. -/
theorem JR.asAnys {w : World} {S : Nat → Prop} {j : J} {v : Value} (h : JR w S j v) :
    (∃ l a cap, j = .arr l ∧ v = .iface 67 (.slice a l.length cap) ∧ ∀ w', (Instr.typeAssert v 20 67 true).run Tryz.prog w' = .ok (.tuple #[.slice a l.length cap, .bool true]) w') ∨
    ((∀ l, j ≠ .arr l) ∧ ∀ w', (Instr.typeAssert v 20 67 true).run Tryz.prog w' = .ok (.tuple #[.slice none 0 0, .bool false]) w') := by
  have h := h.head
  cases j with
  | null => obtain rfl := h; exact Or.inr ⟨(fun l e => by cases e), fun w' => as_nil_anys w'⟩
  | bool b => obtain rfl := h; exact Or.inr ⟨(fun l e => by cases e), fun w' => as_bool_anys _ w'⟩
  | num x =>
    simp only [JHead] at h
    by_cases he : x % 2 = 0
    · rw [if_pos he] at h
      subst h
      exact Or.inr ⟨(fun l e => by cases e), fun w' => as_int_anys _ w'⟩
    · rw [if_neg he] at h
      subst h
      exact Or.inr ⟨(fun l e => by cases e), fun w' => as_float_anys _ w'⟩
  | str s => obtain rfl := h; exact Or.inr ⟨(fun l e => by cases e), fun w' => as_string_anys _ w'⟩
  | arr l => obtain ⟨a, cap, rfl⟩ := h; exact Or.inl ⟨l, a, cap, rfl, rfl, fun w' => as_anys_anys _ w'⟩
  | obj m => obtain ⟨b, rfl⟩ := h; exact Or.inr ⟨(fun l e => by cases e), fun w' => as_map_anys _ w'⟩

/-- A depth of k + 1 below none. -/
def dep (k : Nat) : Nat := FloatKind.f64.nearest (-((k : Int) + 1))
theorem dep_less {k : Nat} (h : k < 1000) : floatBits .sub .f64 (dep k) 4607182418800017408 = some (dep (k + 1)) := dep_sub k h
theorem dep_not {k : Nat} (h : k < 1000) : FloatKind.f64.format.order (dep k) 0 = some .lt := dep_ne k h
theorem dep_zero : dep 0 = 13830554455654793216 := dep_one

/-- Values of the package in a row that a call owns, each a reading in blocks of S. -/
def ARow (lo : Nat) (S : Nat → Prop) (l : List J) (v : Value) (xs : List Value) (w : World) : Prop :=
  w.ownsRow lo 20 1 v xs.length xs ∧ xs.length = l.length ∧ ∀ i (_ : i < l.length) (h : i < xs.length), JR w S l[i] xs[i]

/-- What the package's flatten leaves: the row, longer by all that the list has. -/
def GFlatPost (lo : Nat) (S : Nat → Prop) (w : World) (js : List J) (e : Ending) (w' : World) : Prop :=
  ∃ v xs, e = .returned v ∧ ARow lo S js v xs w' ∧ Below lo w w'

theorem flatTake_room (l : List J) {m : Nat} (h : m < l.length) : (flatTake l m).length + (l[m]).n ≤ (J.arr l).n := by
  have h1 : (flatTake l m).length ≤ (J.arr (l.take m)).n := by
    have := flatJ_len _ (.arr (l.take m)) (Nat.le_refl _)
    rwa [flatJ_arr] at this
  have h2 : ((l.take (m + 1)).map J.n).sum = ((l.take m).map J.n).sum + (l[m]).n := by
    simp only [List.take_add_one, List.getElem?_eq_getElem h, Option.toList_some, List.map_append, List.map_cons, List.map_nil, List.sum_append, List.sum_cons, List.sum_nil, Nat.add_zero]
  have h3 : ((l.take (m + 1)).map J.n).sum ≤ (l.map J.n).sum := by
    have : (l.map J.n).sum = ((l.take (m + 1)).map J.n).sum + ((l.drop (m + 1)).map J.n).sum := by rw [← List.sum_append, ← List.map_append, List.take_append_drop]
    omega
  rw [J.n_arr] at h1 ⊢
  omega

theorem news_one (w : World) (v : Value) (t : TypeId) : ∀ j u, [v][j]? = some u → (w.alloc (.cells #[v] t)).cell? ((⟨w.heap.size, 0, none⟩ : Addr).add j) = some u :=
  World.news_of_block (heap_alloc_new w (.cells #[v] t))

theorem ARow.one {lo : Nat} {S : Nat → Prop} {l : List J} {v v' x : Value} {j : J} {xs : List Value} {w w' : World} (h : ARow lo S l v xs w) (hx : JR w S j x)
    (hown : w'.ownsRow lo 20 1 v' (xs.length + 1) (xs ++ [x])) (hg : w.grownBy w' v.ownBlock) (hS : ∀ b, S b → b < lo) (hlo : lo ≤ w.heap.size) : ARow lo S (l ++ [j]) v' (xs ++ [x]) w' := by
  have hsame : Same S w w' := fun b hb => hg.block b (Nat.lt_of_lt_of_le (hS b hb) hlo) (fun e => by have := (h.1.lt b e.symm).1; have := hS b hb; omega)
  have h2 := h.2.1
  refine ⟨by simpa using hown, by simp [h2], fun i hi hx' => ?_⟩
  rcases Nat.lt_or_ge i l.length with hl | hl
  · rw [List.getElem_append_left hl, List.getElem_append_left (by omega)]
    exact (h.2.2 i hl (by omega)).go hsame (fun _ h => h)
  · have h0 : i = l.length := by simp at hi; omega
    subst h0
    have e1 : (l ++ [j])[l.length] = j := by simp
    have e2 : (xs ++ [x])[l.length]'hx' = x := by simp [← h2]
    rw [e1, e2]
    exact hx.go hsame (fun _ h => h)

theorem ARow.below {lo : Nat} {S : Nat → Prop} {l : List J} {v : Value} {xs : List Value} {w w' : World} (h : ARow lo S l v xs w) (hb : Below w.heap.size w w') (hS : ∀ b, S b → b < lo) (hlo : lo ≤ w.heap.size) : ARow lo S l v xs w' :=
  ⟨row_below h.1 hb, h.2.1, fun i hi hx => (h.2.2 i hi hx).go (fun b hb' => hb.block b (Nat.lt_of_lt_of_le (hS b hb') hlo)) (fun _ h => h)⟩

set_option maxRecDepth 100000 in
set_option maxHeartbeats 1000000 in
theorem GFlat_any (n : Nat) : ∀ (l : List J) (a : Option Addr) (cap : Nat) (l0 : List J) (v0 : Value) (xs0 : List Value) (w : World) (S : Nat → Prop) (lo k : Nat), SizeOf.sizeOf (J.arr l) ≤ n → l0.length + (J.arr l).n ≤ 400 → k + (J.arr l).n ≤ 999 →
    (∀ b, S b → b < lo) → lo ≤ w.heap.size → ARow lo S l0 v0 xs0 w → (∀ i (_ : i < l.length), ∃ b o x, a = some ⟨b, o, none⟩ ∧ S b ∧ w.cell? ⟨b, o + i, none⟩ = some x ∧ JR w S l[i] x) →
    Calls Tryz.prog 98 #[v0, .slice a l.length cap, .float .f64 (dep k)] w (GFlatPost lo S w (l0 ++ flatJ (.arr l))) := by
  induction n with
  | zero => intro l a cap l0 v0 xs0 w S lo k hn; simp at hn
  | succ n ih =>
    intro l a cap l0 v0 xs0 w S lo k hn h400 hk hS hlo hA helem
    obtain ⟨i0, hi, hz0, hz1, hz2⟩ := info_parts info_any
    have hll := J.len_le l
    have hlen : l.length ≤ 400 := by omega
    have hk0 : k < 1000 := by omega
    have hsub : ∀ t w, (binOp .sub t (.float .f64 (dep k)) (.float .f64 4607182418800017408)).run Tryz.prog w = .ok (.float .f64 (dep (k + 1))) w := fun t w => run_float_arith w .sub t .f64 _ _ _ (dep_less hk0)
    have hord := dep_not hk0
    have he := Lib.hid helem; have IHH := Lib.hid ih; have HS := Lib.hid hS; have HN := Lib.hid hn; have H4 := Lib.hid h400; have HK := Lib.hid hk; have A0 := Lib.hid hA
    have I0 := Lib.hid hi; have I1 := Lib.hid hz0; have I2 := Lib.hid hz1; have I3 := Lib.hid hz2
    obtain ⟨a0, cap0, rfl⟩ := row_form hA.1
    clear helem ih hS hi hz0 hz1 hz2 hn h400 hk hll hk0 hA
    go_enter Tryz.func98, Tryz.ntmps98
    go_wp2_with fail
    go_loopw [0, 13] (fun out i wr => ∃ (m : Nat) (xs : List Value) (la : Option Addr) (lc : Nat), out = .slice la xs.length lc ∧ i = .int .i64 m ∧ m ≤ l.length ∧ ARow lo S (l0 ++ flatTake l m) out xs wr ∧ Below lo w wr) (fun _ i _ => l.length - (intOf i).toNat)
    case atStart => exact ⟨0, xs0, a0, cap0, rfl, rfl, Nat.zero_le _, by rw [flatTake_zero, List.append_nil]; exact A0.out, Below.refl _ _⟩
    case round =>
      obtain ⟨m, xs, la, lc, rfl, rfl, hm, hG, hb⟩ := hrel
      have hx400 : xs.length ≤ 800 := by have := flatTake_len l m; have := H4.out; have := hG.2.1; simp at this; omega
      have GG := Lib.hid hG; have WB := Lib.hid hb
      clear hG hb
      by_cases hlt : m < l.length
      · obtain ⟨b1, o1, x, ha, hb1, hc, hV⟩ := he.out m hlt
        subst ha
        have hc' := (WB.out.cell (p := ⟨b1, o1 + m, none⟩) (HS.out b1 hb1)).trans hc
        have hV' := hV.go ((fun b hb => WB.out.block b (HS.out b hb)) : Same S w wr) (fun _ h => h)
        have sz := WB.out.size
        rcases hV'.asAnys with ⟨l', a', cap', hj, rfl, has⟩ | ⟨hj, has⟩
        · rw [hj] at hV'
          obtain ⟨a9, cap9, e9, hel⟩ := hV'.arr
          cases e9
          have hmem : (J.arr l') ∈ l := by rw [← hj]; exact List.getElem_mem hlt
          have hnn := J.n_mem hmem
          have hsz' := List.sizeOf_lt_of_mem hmem
          have hroom := flatTake_room l hlt
          rw [hj] at hroom
          have hl4 : l'.length ≤ 400 := by have := H4.out; have := J.len_le l'; omega
          have IH := Lib.hid (IHH.out l' a' cap' (l0 ++ flatTake l m) (.slice la xs.length lc) xs wr S lo (k + 1) (by have := HN.out; simp only [J.arr.sizeOf_spec] at this hsz' ⊢; omega) (by have := H4.out; simp; omega) (by have := HK.out; omega) HS.out (by omega) GG.out hel)
          have FT := Lib.hid (flatTake_succ l hlt)
          have HJ := Lib.hid hj
          clear hmem hnn hsz' hroom hj hc hV hel hV'
          go_wp2_with (first | simp only [has] | simp only [hsub])
          refine IH.out.mono ?_
          rintro e w2 ⟨v2, xs2, rfl, hR2, hb2⟩
          obtain ⟨a2, cap2, rfl⟩ := row_form hR2.1
          have R2 := Lib.hid hR2; have B2 := Lib.hid hb2
          clear hR2 hb2 hc'
          go_wp2_with fail
          go_roundw
          case rel =>
            have hfin := R2.out
            rw [← HJ.out, List.append_assoc, ← FT.out] at hfin
            exact ⟨m + 1, xs2, a2, cap2, rfl, by go_num, by omega, hfin, WB.out.trans B2.out⟩
          case measure => simp [intOf]; omega
        · have FT := Lib.hid (flatTake_succ l hlt)
          have HJ := Lib.hid (flatJ_other l[m] hj)
          have form := hV'.form
          have V0 := Lib.hid hV'
          clear hj hc hV hV'
          rcases form with rfl | ⟨t', u, rfl⟩
          · go_wp2_with (first | simp only [has] | (at_builtin; refine wpList_append_lies _ rfl _ _ 67 rfl lo 20 i0 .nilIface 1 16 Tryz.underlying67 I0.out I1.out I2.out I3.out rfl (by omega) (.slice la xs.length lc) xs.length xs rfl (GG.out.1.alloc _) ⟨wr.heap.size, 0, none⟩ 1 1 [Value.nilIface] rfl rfl (news_one wr _ _) (by simp; rfl) (by omega) (by unfold maxLen; omega) (by omega) (by simp; omega) (wr.heap.size + 1) (by simp) ?_; intro g cp w3 hown3 hgrow hat hlt3; have OW := Lib.hid hown3; have GW := Lib.hid hgrow; clear hown3 hgrow hat))
            go_roundw
            case rel =>
              have hb1 : Below wr.heap.size wr (wr.alloc (.cells #[Value.nilIface] 20)) := (Below.refl _ _).alloc (Nat.le_refl _) _
              have G1 := GG.out.below hb1 HS.out (by omega)
              have hfin := G1.one (V0.out.go (fun b hb => hb1.block b (by have := HS.out b hb; omega)) (fun _ h => h)) OW.out GW.out HS.out (by simp; omega)
              rw [← HJ.out, List.append_assoc, ← FT.out] at hfin
              refine ⟨m + 1, xs ++ [.nilIface], some ⟨g, 0, none⟩, cp, by simp, by go_num, by omega, by simpa using hfin, ?_⟩
              exact (WB.out.trans (hb1.mono (by omega))).grown GW.out (by simp; omega) (fun k hk => (GG.out.1.lt k hk).1)
            case measure => simp [intOf]; omega
          · go_wp2_with (first | simp only [has] | (at_builtin; refine wpList_append_lies _ rfl _ _ 67 rfl lo 20 i0 .nilIface 1 16 Tryz.underlying67 I0.out I1.out I2.out I3.out rfl (by omega) (.slice la xs.length lc) xs.length xs rfl (GG.out.1.alloc _) ⟨wr.heap.size, 0, none⟩ 1 1 [Value.iface t' u] rfl rfl (news_one wr _ _) (by simp; rfl) (by omega) (by unfold maxLen; omega) (by omega) (by simp; omega) (wr.heap.size + 1) (by simp) ?_; intro g cp w3 hown3 hgrow hat hlt3; have OW := Lib.hid hown3; have GW := Lib.hid hgrow; clear hown3 hgrow hat))
            go_roundw
            case rel =>
              have hb1 : Below wr.heap.size wr (wr.alloc (.cells #[Value.iface t' u] 20)) := (Below.refl _ _).alloc (Nat.le_refl _) _
              have G1 := GG.out.below hb1 HS.out (by omega)
              have hfin := G1.one (V0.out.go (fun b hb => hb1.block b (by have := HS.out b hb; omega)) (fun _ h => h)) OW.out GW.out HS.out (by simp; omega)
              rw [← HJ.out, List.append_assoc, ← FT.out] at hfin
              refine ⟨m + 1, xs ++ [.iface t' u], some ⟨g, 0, none⟩, cp, by simp, by go_num, by omega, by simpa using hfin, ?_⟩
              exact (WB.out.trans (hb1.mono (by omega))).grown GW.out (by simp; omega) (fun k hk => (GG.out.1.lt k hk).1)
            case measure => simp [intOf]; omega
      · obtain rfl : m = l.length := by omega
        go_wp2_with fail
        go_ret
        exact ⟨_, _, rfl, by rw [← flatTake_all]; exact GG.out, WB.out⟩
end Go.Proofs.YtinmcopamjjlbaaGreatDoor
