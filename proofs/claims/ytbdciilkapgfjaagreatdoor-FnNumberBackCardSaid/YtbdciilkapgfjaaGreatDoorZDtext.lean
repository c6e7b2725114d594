/- A part of the proof. -/
import Derived.Test.YtbdciilkapgfjaaGreatDoorM32
import Derived.Test.YtbdciilkapgfjaaGreatDoorM21
namespace Go.Proofs.YtbdciilkapgfjaaGreatDoor
open Go.RowKit

/-- Bytes as cells. -/
def tcells (L : List Int) : List Value := L.map (Value.int .u8)
theorem tcells_app (L : List Int) (z : Int) : tcells (L ++ [z]) = tcells L ++ [.int .u8 z] := by simp [tcells]
theorem tcells_get {L : List Int} {j : Nat} (h : j < L.length) : (tcells L)[j]? = some (.int .u8 (L.getD j 0)) := by simp [tcells, h]
/-- append of one byte to a row of bytes of the call's own. -/
theorem wpList_app1 {ops : Array Oper} {rest : List Oper} {o : Oper} {act : Act} {Q : Exit → Act → World → Prop} (hgd : o.guard = none) (s x : Operand)
    (ho : o.op = .call { callee := .builtin .append, args := #[s, x], argTypes := #[105, 105] }) {w : World} {B n c : Nat} {a : Option Addr} {L : List Int} {z : Int}
    (hs : act.eval s = .slice a n c) (hx : act.eval x = .slice (some ⟨w.heap.size, 0, none⟩) 1 1) (hown : w.ownsRow B 5 1 (.slice a n c) n (tcells L)) (hn : n < 10000) (hB : B ≤ w.heap.size)
    (h : ∀ a3 c3 w3, w3.ownsRow B 5 1 (.slice a3 (n + 1) c3) (n + 1) (tcells (L ++ [z])) → Below B w w3 → wpList Tryz.prog ops Q rest (act.put o.dst (.slice a3 (n + 1) c3)) w3) :
    wpList Tryz.prog ops Q (o :: rest) act (w.alloc (.cells #[.int .u8 z] 5)) := by
  have hin : (Tryz.prog.info? 5).map (fun i => (i.zero, i.size, i.bytes)) = some (some (.int .u8 0), 1, 1) := by kernel_rfl
  obtain ⟨i0, hi, hz0, hz1, hz2⟩ := info_parts hin
  refine wpList_append_own_at (P := Tryz.prog) _ hgd s x 105 ho B 5 i0 (.int .u8 0) 1 1 Tryz.underlying105 hi hz0 hz1 hz2 rfl Nat.one_pos (.slice a n c) n (tcells L) hs (hown.alloc _) ⟨w.heap.size, 0, none⟩ 1 1 [.int .u8 z] hx rfl (World.news_of_block (heap_alloc_at _ _)) (fun u hu => by simp at hu; subst hu; rfl) (by unfold maxLen; omega) (by omega) (by simp; omega) ?_
  intro v' w3 hown' hgrow _ _
  obtain ⟨a3, c3, rfl⟩ := slice_form hown'
  exact h a3 c3 w3 (by rw [tcells_app]; exact hown') (grow_below hown hgrow hB)

/-- The first digits as bytes. -/
def tx (D : List Nat) (i : Nat) : List Int := (D.take i).map fun d => ((48 + d : Nat) : Int)
theorem tx_succ {D : List Nat} {i d : Nat} (hi : i < D.length) (hd : D.getD i 0 = d) : tx D i ++ [48 + (d : Int)] = tx D (i + 1) := by
  have e : D[i] = d := by simpa [hi] using hd
  unfold tx
  rw [List.take_add_one, List.getElem?_eq_getElem hi, e]
  simp
theorem strOfNums_append (xs ys : List Int) : strOfNums (xs ++ ys) = strOfNums xs ++ strOfNums ys := by
  have h : (strOfNums (xs ++ ys)).data = (strOfNums xs ++ strOfNums ys).data := by
    rw [ByteArray.data_append]
    simp [strOfNums]
  exact ByteArray.ext h
theorem half_txt {k p : Nat} (hp : (digs (10 * k + 5)).length = p + 1) : strOfNums ((if p = 0 then [48] else tx (digs (10 * k + 5)) p) ++ [46] ++ [48 + (((digs (10 * k + 5)).getD p 0 : Nat) : Int)]) = dtxt (digs k) ++ ⟨(46 :: 53 :: []).toArray⟩ := by
  by_cases hk : k = 0
  · subst hk
    have e : digs (10 * 0 + 5) = [5] := digs_lt (by decide)
    rw [e] at hp ⊢
    obtain rfl : p = 0 := by simpa using hp.symm
    rw [digs_lt (by decide)]
    rfl
  · rw [digs_snoc hk (by decide)] at hp ⊢
    have hl : (digs k).length = p := by simpa using hp
    have hpos := List.length_pos_iff.2 (digs_ne k)
    have e1 : tx (digs k ++ [5]) p = (digs k).map fun d => ((48 + d : Nat) : Int) := by
      unfold tx
      rw [← hl, List.take_left']
      rfl
    have e2 : (digs k ++ [5]).getD p 0 = 5 := by rw [← hl]; simp
    rw [if_neg (by omega), e1, e2, List.append_assoc, strOfNums_append]
    rfl

set_option maxRecDepth 100000 in
set_option maxHeartbeats 2000000 in
/-- text, with one digit behind the point. -/
theorem text_half {w : World} {lo hi N cap k : Nat} {a : Option Addr} (h : DecAt w lo hi N a cap (digs (10 * k + 5)) ((digs (10 * k + 5)).length - 1 : Int)) (hk : k ≤ 10000000000000000) :
    Calls Tryz.prog 129 #[.pointer (some ⟨N, 0, none⟩), .int .i64 1] w fun e w' => e = .returned (.string (dtxt (digs k) ++ ⟨(46 :: 53 :: []).toArray⟩)) ∧ Below w.heap.size w w' := by
  obtain ⟨p, hp⟩ : ∃ p, (digs (10 * k + 5)).length = p + 1 := ⟨(digs (10 * k + 5)).length - 1, by have := List.length_pos_iff.2 (digs_ne (10 * k + 5)); omega⟩
  have hlen : (digs (10 * k + 5)).length ≤ 20 := digs_len (by decide) (by omega)
  have hdig := digs_dig (10 * k + 5)
  have htx := half_txt hp
  obtain ⟨s, hs⟩ : ∃ s, s = dtxt (digs k) ++ ⟨(46 :: 53 :: []).toArray⟩ := ⟨_, rfl⟩
  rw [← hs] at htx ⊢
  clear hs
  generalize digs (10 * k + 5) = D at *
  have e1 : ((D.length : Nat) : Int) - 1 = (p : Int) := by omega
  rw [e1] at h
  have H := Lib.hid h; have HP := Lib.hid hp; have HD := Lib.hid hdig; have HTX := Lib.hid htx
  have hp20 : p < 20 := by omega
  clear h hp hdig hlen e1 htx
  go_enter Tryz.func129, Tryz.ntmps129
  go_wp2_with fail
  go_loopw [5, 6] (fun us ui wr => ∃ (i : Nat) (a' : Option Addr) (c' : Nat), us = .slice a' i c' ∧ ui = .int .i64 (i : Int) ∧ i ≤ p ∧ wr.ownsRow w.heap.size 5 1 (.slice a' i c') i (tcells (tx D i)) ∧ Below w.heap.size w wr) (fun _ ui _ => p - (intOf ui).toNat)
  case atStart => exact ⟨0, none, 0, rfl, rfl, Nat.zero_le _, World.ownsRow_nil _ _ _ _, Below.refl _ _⟩
  case round =>
    obtain ⟨i, a', c', rfl, rfl, hi, hrow, hb⟩ := hrel
    have hd := H.out.keep (hb.mono H.out.size)
    have c0 := hd.c0; have c1 := hd.c1
    have hs2 := hb.size
    have HB := Lib.hid hb; have HROW := Lib.hid hrow; have HD2 := Lib.hid hd
    by_cases hlt : i < p
    · have e1 : decide ((i : Int) < (p : Int)) = true := decide_eq_true (by omega)
      have DG := Lib.hid (digit_any hd i)
      obtain ⟨d, hdd⟩ : ∃ d, D.getD i 0 = d := ⟨_, rfl⟩
      have hd9 : d < 10 := by rw [← hdd]; exact getD_dig HD.out i
      rw [hdd] at DG
      have TX := Lib.hid (tx_succ (by have := HP.out; omega) hdd)
      clear hb hrow hd hdd
      go_wp2_with fail
      refine DG.out.mono ?_
      rintro e w' ⟨rfl, rfl⟩
      go_wp2_with (at_builtin; go_loud (refine wpList_app1 rfl (.tmp 16) (.tmp 21) rfl rfl rfl HROW.out (by omega) hs2 ?_))
      intro a3 c3 w3 hown hlow
      rw [TX.out] at hown
      have HO := Lib.hid hown; have HL := Lib.hid (HB.out.trans (hlow.mono (Nat.le_refl _)))
      clear hown hlow
      go_wp2_with fail
      go_roundw
      case rel => exact ⟨i + 1, a3, c3, rfl, by go_num, by omega, HO.out, HL.out⟩
      case measure => simp [intOf]; omega
    · obtain rfl : i = p := by omega
      have e1 : decide ((i : Int) < (i : Int)) = false := decide_eq_false (by omega)
      obtain ⟨d, hdd⟩ : ∃ d, D.getD i 0 = d := ⟨_, rfl⟩
      have hd9 : d < 10 := by rw [← hdd]; exact getD_dig HD.out i
      have HDD := Lib.hid hdd
      have LX : Hid ((tx D i).length = i) := Lib.hid (by unfold tx; simp; have := HP.out; omega)
      clear hb hrow hd hlt hi hdd
      by_cases hi0 : i = 0
      · subst hi0
        go_wp2_with (at_builtin; go_loud (refine wpList_app1 rfl (.tmp 26) (.tmp 27) rfl rfl rfl HROW.out (by omega) hs2 ?_))
        intro a3 c3 w3 hown hlow
        obtain ⟨XS, hXS⟩ : ∃ XS : List Int, XS = tx D 0 ++ [48] := ⟨_, rfl⟩
        rw [← hXS] at hown
        have XLEN : Hid (XS.length = 1) := Lib.hid (by rw [hXS, List.length_append, LX.out]; rfl)
        have SX : Hid (strOfNums (XS ++ [46, 48 + (d : Int)]) = s) := Lib.hid (by rw [hXS, ← HTX.out, HDD.out]; rfl)
        have HO := Lib.hid hown
        have hd3 := HD2.out.keep (hlow.mono H.out.size)
        have DEC := Lib.hid hd3
        have LOW := Lib.hid (HB.out.trans (hlow.mono (Nat.le_refl _)))
        have hs3 := LOW.out.size
        have c0 := hd3.c0; have c1 := hd3.c1
        clear hown hlow hd3 hXS
        go_wp2_with (at_builtin; go_loud (refine wpList_app1 rfl (.tmp 31) (.tmp 32) rfl rfl rfl HO.out (by omega) hs3 ?_))
        intro a4 c4 w4 hown4 hlow4
        have HO4 := Lib.hid hown4
        have hd4 := DEC.out.keep (hlow4.mono H.out.size)
        have c0 := hd4.c0; have c1 := hd4.c1
        have hs4 := hlow4.size
        have LOW4 := Lib.hid (LOW.out.trans hlow4)
        have DG := Lib.hid (digit_any hd4 0)
        rw [HDD.out] at DG
        have DEC4 := Lib.hid hd4
        clear hown4 hlow4 hd4
        go_wp2_with fail
        go_loopw [5, 7] (fun us uj wr => ∃ a5 c5, (us = .slice a5 (1 + 1) c5 ∧ uj = .int .i64 0 ∧ wr.ownsRow w.heap.size 5 1 (.slice a5 (1 + 1) c5) (1 + 1) (tcells (XS ++ [46])) ∧ wr = w4) ∨ (us = .slice a5 (1 + 2) c5 ∧ uj = .int .i64 1 ∧ wr.ownsRow w.heap.size 5 1 (.slice a5 (1 + 2) c5) (1 + 2) (tcells (XS ++ [46, 48 + (d : Int)])) ∧ Below w.heap.size w wr)) (fun _ uj _ => 1 - (intOf uj).toNat)
        case atStart => exact ⟨a4, c4, Or.inl ⟨rfl, rfl, HO4.out, rfl⟩⟩
        case round =>
          obtain ⟨a5, c5, ⟨rfl, rfl, hr5, rfl⟩ | ⟨rfl, rfl, hr5, hb5⟩⟩ := hrel
          · have HR5 := Lib.hid hr5
            clear hr5
            go_wp2_with fail
            refine DG.out.mono ?_
            rintro e w' ⟨rfl, rfl⟩
            go_wp2_with (at_builtin; go_loud (refine wpList_app1 rfl (.tmp 39) (.tmp 49) rfl rfl rfl HR5.out (by omega) (by omega) ?_))
            intro a6 c6 w6 hown6 hlow6
            have HO6 := Lib.hid hown6
            have LOW6 := Lib.hid (LOW4.out.trans hlow6)
            clear hown6 hlow6
            go_wp2_with fail
            go_roundw
            case rel => exact ⟨a6, c6, Or.inr ⟨rfl, rfl, HO6.out, LOW6.out⟩⟩
            case measure => simp [intOf]
          · obtain ⟨g, rfl⟩ : ∃ g, a5 = some ⟨g, 0, none⟩ := by
              rcases hr5.2 with ⟨_, h⟩ | ⟨g, cap, cur, hv, _⟩
              · omega
              · cases hv; exact ⟨g, rfl⟩
            have hcell := hr5.cells rfl
            have hcv := run_convert_bytes_arg (P := Tryz.prog) wr 105 5 Tryz.underlying105 Tryz.underlying5 g 0 (1 + 2) c5 (XS ++ [46, 48 + (d : Int)]) (by rw [List.length_append, XLEN.out]; rfl) (fun j hj => by
              have h := hcell j _ (tcells_get (by rw [List.length_append, XLEN.out]; exact hj))
              rwa [addr_add] at h) 9 Tryz.underlying9
            rw [SX.out] at hcv
            have HB5 := Lib.hid hb5
            clear hr5 hb5 hcell
            go_wp2_with fail
            go_ret
            exact ⟨rfl, HB5.out⟩
      · have hz : ((i : Int) == 0) = false := by simpa using hi0
        have hlow := HB.out
        obtain ⟨XS, hXS⟩ : ∃ XS : List Int, XS = tx D i := ⟨_, rfl⟩
        have HO : Hid (wr.ownsRow w.heap.size 5 1 (.slice a' i c') i (tcells XS)) := Lib.hid (by rw [hXS]; exact HROW.out)
        have XLEN : Hid (XS.length = i) := Lib.hid (by rw [hXS]; exact LX.out)
        have SX : Hid (strOfNums (XS ++ [46, 48 + (d : Int)]) = s) := Lib.hid (by rw [hXS, ← HTX.out, HDD.out, if_neg hi0, List.append_assoc]; rfl)
        have DEC := HD2
        have LOW := HB
        have hs3 := LOW.out.size
        clear hlow hXS hi0
        go_wp2_with (at_builtin; go_loud (refine wpList_app1 rfl (.tmp 31) (.tmp 32) rfl rfl rfl HO.out (by omega) hs3 ?_))
        intro a4 c4 w4 hown4 hlow4
        have HO4 := Lib.hid hown4
        have hd4 := DEC.out.keep (hlow4.mono H.out.size)
        have c0 := hd4.c0; have c1 := hd4.c1
        have hs4 := hlow4.size
        have LOW4 := Lib.hid (LOW.out.trans hlow4)
        have DG := Lib.hid (digit_any hd4 i)
        rw [HDD.out] at DG
        have DEC4 := Lib.hid hd4
        clear hown4 hlow4 hd4
        go_wp2_with fail
        go_loopw [5, 7] (fun us uj wr => ∃ a5 c5, (us = .slice a5 (i + 1) c5 ∧ uj = .int .i64 0 ∧ wr.ownsRow w.heap.size 5 1 (.slice a5 (i + 1) c5) (i + 1) (tcells (XS ++ [46])) ∧ wr = w4) ∨ (us = .slice a5 (i + 2) c5 ∧ uj = .int .i64 1 ∧ wr.ownsRow w.heap.size 5 1 (.slice a5 (i + 2) c5) (i + 2) (tcells (XS ++ [46, 48 + (d : Int)])) ∧ Below w.heap.size w wr)) (fun _ uj _ => 1 - (intOf uj).toNat)
        case atStart => exact ⟨a4, c4, Or.inl ⟨rfl, rfl, HO4.out, rfl⟩⟩
        case round =>
          obtain ⟨a5, c5, ⟨rfl, rfl, hr5, rfl⟩ | ⟨rfl, rfl, hr5, hb5⟩⟩ := hrel
          · have HR5 := Lib.hid hr5
            clear hr5
            go_wp2_with fail
            refine DG.out.mono ?_
            rintro e w' ⟨rfl, rfl⟩
            go_wp2_with (at_builtin; go_loud (refine wpList_app1 rfl (.tmp 39) (.tmp 49) rfl rfl rfl HR5.out (by omega) (by omega) ?_))
            intro a6 c6 w6 hown6 hlow6
            have HO6 := Lib.hid hown6
            have LOW6 := Lib.hid (LOW4.out.trans hlow6)
            clear hown6 hlow6
            go_wp2_with fail
            go_roundw
            case rel => exact ⟨a6, c6, Or.inr ⟨rfl, rfl, HO6.out, LOW6.out⟩⟩
            case measure => simp [intOf]
          · obtain ⟨g, rfl⟩ : ∃ g, a5 = some ⟨g, 0, none⟩ := by
              rcases hr5.2 with ⟨_, h⟩ | ⟨g, cap, cur, hv, _⟩
              · omega
              · cases hv; exact ⟨g, rfl⟩
            have hcell := hr5.cells rfl
            have hcv := run_convert_bytes_arg (P := Tryz.prog) wr 105 5 Tryz.underlying105 Tryz.underlying5 g 0 (i + 2) c5 (XS ++ [46, 48 + (d : Int)]) (by rw [List.length_append, XLEN.out]; rfl) (fun j hj => by
              have h := hcell j _ (tcells_get (by rw [List.length_append, XLEN.out]; exact hj))
              rwa [addr_add] at h) 9 Tryz.underlying9
            rw [SX.out] at hcv
            have HB5 := Lib.hid hb5
            clear hr5 hb5 hcell
            go_wp2_with fail
            go_ret
            exact ⟨rfl, HB5.out⟩
end Go.Proofs.YtbdciilkapgfjaaGreatDoor
