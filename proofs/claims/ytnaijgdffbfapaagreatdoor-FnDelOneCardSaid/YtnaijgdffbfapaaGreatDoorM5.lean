/- The looker's value at any readable tree: whatever it answers, what it answered as good is good. spec.Fit at any readable tree: true only of a right JSON value of at most 400 parts. laws.zzFits1 and zzFits2 at any readable trees. laws.fits at any readable trees. Plain facts on flattening, and on how many values a JSON value has. A part of the proof. -/
import Derived.Test.YtnaijgdffbfapaaGreatDoorZLook
import Derived.Test.YtnaijgdffbfapaaGreatDoorM1
import Derived.Test.YtnaijgdffbfapaaGreatDoorTail
import Derived.Deep.DeepCutAuto
import Derived.Deep.CutBlock
import Derived.LoopTactic
import Derived.BigQuiet
namespace Go.Proofs.YtnaijgdffbfapaaGreatDoor
open Go.RowKit

/-- i elements of a list have been looked at. -/
def ListAt (l : List T) (b : Nat) (w0 : World) (p q : Int) (F : Prop) (i : Nat) (wr : World) : Prop :=
  ∃ p' q' bad', Lk wr b p' q' bad' ∧ Ok p' q' bad' ∧ w0.grownBy wr (some b) ∧
    (bad' = false → F ∧ (∀ j (_ : j < l.length), j < i → Good l[j]) ∧ p' = p + (((l.take i).map T.n).sum : Nat) ∧ p' ≤ 400 ∧ q ≤ q' ∧ q' ≤ 2000)

/-- m keys and the values at them have been looked at. -/
def KeysAt (ks : List ByteArray) (vs : List T) (b : Nat) (w0 : World) (p q : Int) (F : Prop) (m : Nat) (wr : World) : Prop :=
  ∃ p' q' bad', Lk wr b p' q' bad' ∧ Ok p' q' bad' ∧ w0.grownBy wr (some b) ∧
    (bad' = false → F ∧ (∀ j (_ : j < ks.length), j < m → ks[j].size ≤ 2000) ∧ (∀ j (_ : j + 1 < ks.length), j + 1 < m → Op.bytesLess ks[j].toList ks[j + 1].toList = true) ∧
      (∀ j (_ : j < vs.length), j < m → Good vs[j]) ∧ p' = p + (((vs.take m).map T.n).sum : Nat) ∧ p' ≤ 400 ∧ q ≤ q' ∧ q' ≤ 2000)

theorem Ok.of {p q : Int} {bad : Bool} {P : Prop} (h : bad = false → P ∧ 0 ≤ p ∧ p ≤ 400 ∧ 0 ≤ q ∧ q ≤ 2000) : Ok p q bad := fun hb => (h hb).2

theorem ListAt.step {l : List T} {b : Nat} {w0 wr w' : World} {p q p' q' p6 q6 : Int} {F : Prop} {m : Nat} {bad6 : Bool} (hm : m < l.length) (hok : Ok p' q' false) (hg : w0.grownBy wr (some b))
    (hi : F ∧ (∀ j (_ : j < l.length), j < m → Good l[j]) ∧ p' = p + (((l.take m).map T.n).sum : Nat) ∧ p' ≤ 400 ∧ q ≤ q' ∧ q' ≤ 2000)
    (hL : Lk w' b p6 q6 bad6) (hg6 : wr.grownBy w' (some b)) (h6 : bad6 = false → Good l[m] ∧ p6 = p' + l[m].n ∧ p6 ≤ 400 ∧ q' ≤ q6 ∧ q6 ≤ 2000) : ListAt l b w0 p q F (m + 1) w' := by
  have o := hok rfl
  refine ⟨_, _, _, hL, fun hb => ?_, hg.trans hg6, fun hb => ?_⟩
  · have := h6 hb; omega
  · obtain ⟨a1, a2, a3, a4, a5⟩ := h6 hb
    refine ⟨hi.1, fun j hj hjm => ?_, ?_, a3, by omega, a5⟩
    · rcases Nat.lt_or_ge j m with h | h
      · exact hi.2.1 j hj h
      · have : j = m := by omega
        subst this; exact a1
    · rw [List.take_succ_eq_append_getElem hm, List.map_append, List.sum_append, a2, hi.2.2.1]
      simp; omega

theorem KeysAt.step {ks : List ByteArray} {vs : List T} {b : Nat} {w0 w8 w' : World} {p q p' q' q7 p9 q9 : Int} {F : Prop} {m : Nat} {bad7 bad8 bad9 : Bool} {km : ByteArray} (hm : m < vs.length) (hk : m < ks.length) (hkm : km = ks[m])
    (hok : Ok p' q' false) (hg : w0.grownBy w8 (some b))
    (hi : F ∧ (∀ j (_ : j < ks.length), j < m → ks[j].size ≤ 2000) ∧ (∀ j (_ : j + 1 < ks.length), j + 1 < m → Op.bytesLess ks[j].toList ks[j + 1].toList = true) ∧
      (∀ j (_ : j < vs.length), j < m → Good vs[j]) ∧ p' = p + (((vs.take m).map T.n).sum : Nat) ∧ p' ≤ 400 ∧ q ≤ q' ∧ q' ≤ 2000)
    (h7 : bad7 = false → q7 = q' + km.size ∧ q7 ≤ 2000) (h8 : bad8 = false → bad7 = false ∧ ∀ m' (_ : m' + 1 < ks.length), m = m' + 1 → Op.bytesLess ks[m'].toList ks[m' + 1].toList = true)
    (hL : Lk w' b p9 q9 bad9) (hg9 : w8.grownBy w' (some b)) (h9 : bad9 = false → bad8 = false ∧ Good vs[m] ∧ p9 = p' + vs[m].n ∧ p9 ≤ 400 ∧ q7 ≤ q9 ∧ q9 ≤ 2000) : KeysAt ks vs b w0 p q F (m + 1) w' := by
  have o := hok rfl
  refine ⟨_, _, _, hL, fun hb => ?_, hg.trans hg9, fun hb => ?_⟩
  · have a9 := h9 hb; have a8 := h8 a9.1; have a7 := h7 a8.1; omega
  · obtain ⟨b8, a1, a2, a3, a4, a5⟩ := h9 hb
    obtain ⟨b7, c1⟩ := h8 b8
    obtain ⟨d1, d2⟩ := h7 b7
    obtain ⟨i1, i2, i3, i4, i5, i6, i7, i8⟩ := hi
    refine ⟨i1, fun j hj hjm => ?_, fun j hj hjm => ?_, fun j hj hjm => ?_, ?_, a3, by omega, a5⟩
    · rcases Nat.lt_or_ge j m with h | h
      · exact i2 j hj h
      · have : j = m := by omega
        subst this; rw [← hkm]; omega
    · rcases Nat.lt_or_ge (j + 1) m with h | h
      · exact i3 j hj h
      · exact c1 j hj (by omega)
    · rcases Nat.lt_or_ge j m with h | h
      · exact i4 j hj h
      · have : j = m := by omega
        subst this; exact a1
    · rw [List.take_succ_eq_append_getElem hm, List.map_append, List.sum_append, a2, i5]
      simp; omega

theorem empty_of {s : ByteArray} (h : s.toList.isEmpty = true) : s = ByteArray.empty := by
  have h1 : s.toList = [] := by simpa using h
  have h2 : s.data.toList = [] := by rw [← h1]; exact (ByteArray.toList_eq s).symm
  cases s with | mk d => simp at h2; subst h2; rfl

theorem good_of {t : T} {k h : Int} {s : ByteArray} {la ka va : Option Addr} {ll lc kl kc vl vc : Nat} {q q4 p p1 p5 p' : Int} (hh : THead t ⟨k, h, s, la, ll, lc, ka, kl, kc, va, vl, vc⟩)
    (h2 : 0 ≤ k ∧ k ≤ 6 ∧ (k = 3 ∨ h = 0) ∧ (k = 4 ∨ s.toList.isEmpty = true) ∧ (k = 5 ∨ (ll : Int) = 0) ∧ (k = 6 ∨ (kl : Int) = 0) ∧ (kl : Int) = vl)
    (h3 : -18014398509481984 ≤ h ∧ h ≤ 18014398509481984 ∧ (h.tmod 2 = 0 ∨ (-9007199254740992 < h ∧ h < 9007199254740992)))
    (hq : 0 ≤ q) (h4 : q4 = q + s.size ∧ q4 ≤ 2000) (hl : ∀ j (_ : j < t.l.length), j < t.l.length → Good t.l[j]) (hp5 : p5 = p1 + (((t.l.take t.l.length).map T.n).sum : Nat)) (hp1 : p1 = p + 1)
    (hk1 : ∀ j (_ : j < t.ks.length), j < kl → t.ks[j].size ≤ 2000) (hk2 : ∀ j (_ : j + 1 < t.ks.length), j + 1 < kl → Op.bytesLess t.ks[j].toList t.ks[j + 1].toList = true)
    (hv : ∀ j (_ : j < t.vs.length), j < kl → Good t.vs[j]) (hp' : p' = p5 + (((t.vs.take kl).map T.n).sum : Nat)) : Good t ∧ p' = p + t.n := by
  have e1 := hh.k; have e2 := hh.h; have e3 := hh.s; have e4 := hh.ll; have e5 := hh.kl; have e6 := hh.vl
  simp only at e1 e2 e3 e4 e5 e6
  subst e1; subst e2; subst e3
  obtain ⟨a1, a2, a3, a4, a5, a6, a7⟩ := h2
  obtain ⟨b1, b2, b3⟩ := h3
  refine ⟨?_, ?_⟩
  · rw [Good]
    refine ⟨⟨a1, a2, a3, a4.imp id empty_of, a5.imp id (fun h => List.length_eq_zero_iff.1 (by omega)), a6.imp id (fun h => List.length_eq_zero_iff.1 (by omega)), by omega, b1, b2, b3.imp (fun h => by rw [Int.tmod_eq_emod] at h; split at h <;> omega) id, by omega⟩,
      fun i hi => hl i hi hi, fun i hi => hk1 i hi (by omega), fun i hi => hk2 i hi (by omega), fun i hi => hv i hi (by omega)⟩
  · rw [T.n_eq, hp', hp5, hp1, List.take_of_length_le (Nat.le_refl _), List.take_of_length_le (by omega)]
    simp; omega

set_option maxRecDepth 100000 in
set_option maxHeartbeats 4000000 in
theorem look_any (n : Nat) : ∀ (t : T) (c : VC) (d p q : Int) (bad : Bool) (b B : Nat) (w : World), SizeOf.sizeOf t ≤ n → TR w B t c → Lk w b p q bad → Ok p q bad → B ≤ b → LB ≤ B → Tabs w → 0 ≤ d → d ≤ 61 →
    Calls Tryz.prog 23 #[.pointer (some ⟨b, 0, none⟩), c.val, .int .i64 d] w (LkPost b w fun v p' q' bad' => v = .tuple #[] ∧ (bad' = false → bad = false ∧ Good t ∧ p' = p + t.n ∧ p' ≤ 400 ∧ q ≤ q' ∧ q' ≤ 2000)) := by
  induction n with
  | zero => intro t c d p q bad b B w hn; cases t; simp at hn
  | succ n ih =>
    intro t c d p q bad b B w hn hTR hL hok hB h40 hT hd0 hd1
    have R := hTR
    rw [TR] at hTR
    obtain ⟨hh, hl, hk, hv⟩ := hTR
    obtain ⟨k, h, s, la, ll, lc, ka, kl, kc, va, vl, vc⟩ := c
    have hbw : b < w.heap.size := hL.lt
    have hne : (b == w.heap.size) = false := by simp; omega
    have hbs := hh.bs
    have hbl := hh.bl
    have hbk := hh.bk
    have hbv := hh.bv
    have Hh := Lib.hid hh; clear hh
    have Hl := Lib.hid hl; clear hl
    have Hk := Lib.hid hk; clear hk
    have Hv := Lib.hid hv; clear hv
    have HR := Lib.hid R; clear R
    have HL := Lib.hid (show Lk (w.alloc (.cells #[.int .i64 k, .int .i64 h, .string s, .slice la ll lc, .slice ka kl kc, .slice va vl vc] 26)) b p q bad from by
      unfold Lk at hL ⊢; rw [Below.heap_alloc _ _ _ hbw]; exact hL)
    have HT := Lib.hid (hT.below ((Below.refl w.heap.size w).alloc (Nat.le_refl _) (.cells #[.int .i64 k, .int .i64 h, .string s, .slice la ll lc, .slice ka kl kc, .slice va vl vc] 26)) (by omega))
    have HO := Lib.hid hok
    have Hn := Lib.hid hn
    clear hL hT hok hn
    unfold VC.val VC.arr
    go_enter Tryz.func23, Tryz.ntmps23
    go_wp2_with fail
    refine (part_any _ HL.out HO.out).mono ?_
    rintro e w1 ⟨v1, p1, q1, bad1, rfl, hL1, hg1, rfl, rfl, hi1⟩
    have L1 := Lib.hid hL1; have G1 := Lib.hid hg1; have I1 := Lib.hid hi1
    have e0 : Box w1 w.heap.size ⟨k, h, s, la, ll, lc, ka, kl, kc, va, vl, vc⟩ := (box_alloc w ⟨k, h, s, la, ll, lc, ka, kl, kc, va, vl, vc⟩).kept hg1 (by omega)
    have f0 := e0.c0; have f1 := e0.c1; have f2 := e0.c2; have f3 := e0.c3; have f4 := e0.c4; have f5 := e0.c5
    have E0 := Lib.hid e0
    clear e0 hL1 hg1 hi1
    cases bad1 with
    | true =>
      go_wp2_with fail
      go_end0
      exact ⟨_, _, _, _, rfl, L1.out, (World.grownBy_alloc _ _ _).trans G1.out, rfl, by simp⟩
    | false =>
    have J1 := Lib.hid (I1.out rfl); clear I1
    go_upto_region 2 with fail
    go_cut [1] (fun _ wx => ∃ bad2, Lk wx b p1 q bad2 ∧ w1.grownBy wx (some b) ∧ (bad2 = false → 0 ≤ k ∧ k ≤ 6 ∧ (k = 3 ∨ h = 0) ∧ (k = 4 ∨ s.toList.isEmpty = true) ∧ (k = 5 ∨ (ll : Int) = 0) ∧ (k = 6 ∨ (kl : Int) = 0) ∧ (kl : Int) = vl))
    case first =>
      -- <1
      go_wp2_with fail
      all_goals
        refine (want_any _ L1.out).mono ?_
        rintro e w2 ⟨rfl, hL, hg⟩
        have L2 := Lib.hid hL; have G2 := Lib.hid hg
        clear hL hg
        go_wp2_with fail
        go_meet
        case rel =>
          refine ⟨_, L2.out, G2.out, ?_⟩
          intro hbad
          simp at hbad
          try exact ⟨by omega, by omega, by omega, (by first | (left; omega) | (right; assumption)), by omega, by omega, by omega⟩
      -- 1>
    case rest =>
      obtain ⟨bad2, hL, hg, hi⟩ := hcut
      obtain ⟨w2, rfl⟩ : ∃ x, x = wc := ⟨_, rfl⟩
      have e2 := E0.out.kept hg (by omega)
      have L2 := Lib.hid hL; have G2 := Lib.hid (G1.out.trans hg); have I2 := Lib.hid hi; have E2 := Lib.hid e2
      clear f0 f1 f2 f3 f4 f5 hL hg hi L1 G1 E0
      have f1 := e2.c1
      have f2 := e2.c2
      clear e2
      go_upto_region 3 with fail
      go_cut [] (fun wx => ∃ bad3, Lk wx b p1 q bad3 ∧ w2.grownBy wx (some b) ∧ (bad3 = false → bad2 = false ∧ -18014398509481984 ≤ h ∧ h ≤ 18014398509481984 ∧ (h.tmod 2 = 0 ∨ (-9007199254740992 < h ∧ h < 9007199254740992))))
      case first =>
        -- <2
        go_wp2_with fail
        all_goals
          refine (want_any _ L2.out).mono ?_
          rintro e w3 ⟨rfl, hL, hg⟩
          have L3 := Lib.hid hL; have G3 := Lib.hid hg
          clear hL hg
          go_wp2_with fail
          go_meet
          case rel =>
            refine ⟨_, L3.out, G3.out, ?_⟩
            intro hbad
            simp at hbad
            try exact ⟨by simp_all, by omega, by omega, (by first | (left; assumption) | (right; omega))⟩
        -- 2>
      case rest =>
        obtain ⟨bad3, hL, hg, hi⟩ := hcut
        obtain ⟨w3, rfl⟩ : ∃ x, x = wc := ⟨_, rfl⟩
        have e3 := E2.out.kept hg (by omega)
        have ok3 : Ok p1 q bad3 := fun hb => by
          have a := hi hb
          have b' := J1.out
          have c' := HO.out b'.1
          omega
        have L3 := Lib.hid hL; have G3 := Lib.hid (G2.out.trans hg); have I3 := Lib.hid hi; have E3 := Lib.hid e3
        have hT3 := HT.out.below (below_of_grown G3.out hB (by simp; omega)) h40
        have T3 := Lib.hid hT3
        have O3 := Lib.hid ok3
        clear f1 f2 hL hg hi L2 G2 E2 ok3 hT3
        have f2 := e3.c2
        clear e3
        have hsz : s.size ≤ 140737488351232 := by have := Hh.out.s; simp at this; rw [this]; exact hbs
        go_wp2_with fail
        refine (str_any s L3.out O3.out hsz T3.out h40 hB).mono ?_
        rintro e w4 ⟨v4, p4, q4, bad4, rfl, hL, hg, rfl, rfl, hi⟩
        have e4 := E3.out.kept hg (by omega)
        have ok4 : Ok p1 q4 bad4 := fun hb => by
          have a := hi hb
          have b' := O3.out a.1
          omega
        have L4 := Lib.hid hL; have G4 := Lib.hid (G3.out.trans hg); have I4 := Lib.hid hi; have E4 := Lib.hid e4; have O4 := Lib.hid ok4
        clear f2 hL hg hi L3 G3 E3 O3 T3 e4 ok4
        have hll1 : ll ≤ t.l.length := Nat.le_of_eq Hh.out.ll
        have hll2 : t.l.length ≤ ll := Nat.le_of_eq Hh.out.ll.symm
        go_upto_block 0 with fail
        go_cut [6] (fun _ wx => ListAt t.l b (w.alloc (.cells #[.int .i64 k, .int .i64 h, .string s, .slice la ll lc, .slice ka kl kc, .slice va vl vc] 26)) p1 q4 (bad4 = false) t.l.length wx)
        case first =>
          -- <3
          go_wp2_with fail
          go_loopw [6] (fun i wr => ∃ m : Nat, i = .int .i64 m ∧ m ≤ ll ∧ ListAt t.l b (w.alloc (.cells #[.int .i64 k, .int .i64 h, .string s, .slice la ll lc, .slice ka kl kc, .slice va vl vc] 26)) p1 q4 (bad4 = false) m wr) (fun i _ => ll - (intOf i).toNat)
          case atStart =>
            exact ⟨0, rfl, Nat.zero_le _, _, _, _, L4.out, O4.out, G4.out, fun hb => ⟨hb, fun j _ hj => absurd hj (Nat.not_lt_zero j), by simp, by have := I4.out hb; have := O4.out hb; omega⟩⟩
          case round =>
            obtain ⟨m, rfl, hm, p', q', bad', hL, hok, hg, hi⟩ := hrel
            have e := (box_alloc w ⟨k, h, s, la, ll, lc, ka, kl, kc, va, vl, vc⟩).kept hg (by omega)
            have hbl' : Below B w wr := ((Below.refl B w).alloc (by omega) _).trans (below_of_grown hg hB (by simp; omega))
            have f3 := e.c3
            have k2 := hL.c2
            have L5 := Lib.hid hL; have G5 := Lib.hid hg; have I5 := Lib.hid hi; have O5 := Lib.hid hok; have B5 := Lib.hid hbl'
            clear hL hg hi hok e hbl'
            cases bad' with
            | true =>
              go_wp2_with fail
              all_goals
                go_meet
                case rel => exact ⟨_, _, _, L5.out, O5.out, G5.out, by simp⟩
            | false =>
              have J5 := Lib.hid (I5.out rfl); clear I5
              by_cases hlt : m < ll
              · obtain ⟨b1, o1, x, hla, hb1, h6, hTx⟩ := Hl.out m (by omega)
                have h6' := h6.below B5.out hb1
                have hT' := hTx.go B5.out (Nat.le_refl _)
                have g0 := h6'.c0; have g1 := h6'.c1; have g2 := h6'.c2; have g3 := h6'.c3; have g4 := h6'.c4; have g5 := h6'.c5
                subst hla
                have R5 := Lib.hid hT'
                clear h6 h6' hT' hTx
                have T5 := Lib.hid (HT.out.below (below_of_grown G5.out hB (by simp; omega)) h40)
                have S5 : SizeOf.sizeOf t.l[m] ≤ n := by have := t.lt_l (i := m) (by omega); have := Hn.out; omega
                have IH := ih t.l[m] x (d + 1) p' q' false b B wr S5 R5.out L5.out O5.out hB h40 T5.out (by omega) (by have := J1.out; omega)
                unfold VC.val VC.arr at IH
                have HI := Lib.hid IH
                clear IH S5
                go_wp2_with fail
                refine HI.out.mono ?_
                rintro e w6 ⟨v6, p6, q6, bad6, rfl, hL6, hg6, rfl, hi6⟩
                have F6 := Lib.hid (ListAt.step (by omega) O5.out G5.out J5.out hL6 hg6 (fun hb => (hi6 hb).2))
                clear hL6 hg6 hi6 k2 f3 g0 g1 g2 g3 g4 g5
                go_wp2_with fail
                go_roundw
                case rel => exact ⟨m + 1, by go_num, by omega, F6.out⟩
                case measure => simp [intOf]; omega
              · go_wp2_with fail
                go_meet
                case rel =>
                  have hml : m = t.l.length := by omega
                  subst hml
                  exact ⟨_, _, _, L5.out, O5.out, G5.out, fun _ => J5.out⟩
          -- 3>
        case rest =>
          obtain ⟨p5, q5, bad5, hL, hok, hg, hi⟩ := hcut
          obtain ⟨w5, rfl⟩ : ∃ x, x = wc := ⟨_, rfl⟩
          have L5 := Lib.hid hL; have G5 := Lib.hid hg; have I5 := Lib.hid hi; have O5 := Lib.hid hok
          clear hL hg hi hok L4 G4 E4 O4
          have hkl1 : kl ≤ t.ks.length := Nat.le_of_eq Hh.out.kl
          have hkl2 : t.ks.length ≤ kl := Nat.le_of_eq Hh.out.kl.symm
          have hvl1 : vl ≤ t.vs.length := Nat.le_of_eq Hh.out.vl
          have hvl2 : t.vs.length ≤ vl := Nat.le_of_eq Hh.out.vl.symm
          go_wp2_with fail
          go_loopw [7] (fun i wr => ∃ m : Nat, i = .int .i64 m ∧ m ≤ kl ∧ KeysAt t.ks t.vs b (w.alloc (.cells #[.int .i64 k, .int .i64 h, .string s, .slice la ll lc, .slice ka kl kc, .slice va vl vc] 26)) p5 q5 (bad5 = false) m wr) (fun i _ => kl - (intOf i).toNat)
          case atStart =>
            exact ⟨0, rfl, Nat.zero_le _, _, _, _, L5.out, O5.out, G5.out, fun hb => ⟨hb, fun j _ hj => absurd hj (Nat.not_lt_zero j), fun j _ hj => absurd hj (Nat.not_lt_zero _), fun j _ hj => absurd hj (Nat.not_lt_zero j), by simp, by have := I5.out hb; have := O5.out hb; omega⟩⟩
          case round =>
            obtain ⟨m, rfl, hm, p', q', bad', hL, hok, hg, hi⟩ := hrel
            have e := (box_alloc w ⟨k, h, s, la, ll, lc, ka, kl, kc, va, vl, vc⟩).kept hg (by omega)
            have hbl' : Below B w wr := ((Below.refl B w).alloc (by omega) _).trans (below_of_grown hg hB (by simp; omega))
            have f4 := e.c4
            have f5 := e.c5
            have k2 := hL.c2
            have L6 := Lib.hid hL; have G6 := Lib.hid hg; have I6 := Lib.hid hi; have O6 := Lib.hid hok; have B6 := Lib.hid hbl'
            have E6 := Lib.hid e
            clear hL hg hi hok e hbl'
            cases bad' with
            | true =>
              go_wp2_with fail
              all_goals
                go_end0
                exact ⟨_, _, _, _, rfl, L6.out, (World.grownBy_alloc _ _ _).trans G6.out, rfl, by simp⟩
            | false =>
              have J6 := Lib.hid (I6.out rfl); clear I6
              by_cases hlt : m < kl
              · obtain ⟨b1, o1, hka, hb1, hkc, hks⟩ := Hk.out m (by omega)
                have hkc' := (B6.out.cell (p := ⟨b1, o1 + m, none⟩) hb1).trans hkc
                subst hka
                have T6 := Lib.hid (HT.out.below (below_of_grown G6.out hB (by simp; omega)) h40)
                have hks1 : t.ks[m].size ≤ 140737488351232 := hks
                obtain ⟨km, hkm⟩ : ∃ x, x = t.ks[m] := ⟨_, rfl⟩
                rw [← hkm] at hkc' hks1 hkc
                have HKC := Lib.hid hkc
                have HK := Lib.hid hkm
                clear hkm hks hkc
                go_wp2_with fail
                refine (str_any km L6.out O6.out hks1 T6.out h40 hB).mono ?_
                rintro e w7 ⟨v7, p7, q7, bad7, rfl, hL, hg, rfl, rfl, hi⟩
                clear f4 f5 k2 hkc'
                have e7 := E6.out.kept hg (by omega)
                have ok7 : Ok p' q7 bad7 := fun hb => by
                  have a := hi hb
                  have := O6.out rfl
                  omega
                have hbl7 : Below B w w7 := B6.out.trans (below_of_grown hg hB (by have := L6.out.lt; omega))
                have f4 := e7.c4
                have f5 := e7.c5
                have hkc7 := (hbl7.cell (p := ⟨b1, o1 + m, none⟩) hb1).trans (show w.cell? ⟨b1, o1 + m, none⟩ = some (.string km) from HKC.out)
                have L7 := Lib.hid hL; have G7 := Lib.hid (G6.out.trans hg); have I7 := Lib.hid hi; have O7 := Lib.hid ok7; have B7 := Lib.hid hbl7; have E7 := Lib.hid e7
                clear hL hg hi ok7 hbl7 e7
                have hkv : kl = vl := by
                  have a1 := J6.out.1; have a2 := (I5.out a1).1; have a3 := (I4.out a2).1; have a4 := (I3.out a3).1; have a5 := I2.out a4
                  omega
                have hmv : m < t.vs.length := by omega
                obtain ⟨b2, o2, x, hva, hb2, h6, hTx⟩ := Hv.out m hmv
                subst hva
                have HX := Lib.hid h6; have HT6 := Lib.hid hTx
                have KV1 := Lib.hid hkv
                clear h6 hTx hkv
                go_upto_region 13 with fail
                go_cut [] (fun wx => ∃ bad8, Lk wx b p' q7 bad8 ∧ w7.grownBy wx (some b) ∧ (bad8 = false → bad7 = false ∧ ∀ m' (_ : m' + 1 < t.ks.length), m = m' + 1 → Op.bytesLess t.ks[m'].toList t.ks[m' + 1].toList = true))
                case first =>
                  -- <4
                  by_cases h0 : m = 0
                  · subst h0
                    go_wp2_with fail
                    refine wp_region_tail 17 (by kernel_rfl) (by kernel_rfl) ?_
                    simp only [List.take_succ_cons, List.take_zero, List.drop_succ_cons, List.drop_zero]
                    repeat (go_big_quiet_step (fail))
                    refine wpQuiet_nil ?_
                    go_wp2_with fail
                    refine (want_any _ (show Lk w7.drew b p' q7 bad7 from L7.out)).mono ?_
                    rintro e w8 ⟨rfl, hL, hg⟩
                    have L8 := Lib.hid hL; have G8 := Lib.hid hg
                    clear hL hg
                    go_wp2_with fail
                    go_meet
                    case rel => exact ⟨_, L8.out, (show w7.grownBy w8 (some b) from ⟨G8.out.os, G8.out.tape, G8.out.output, G8.out.size, G8.out.block⟩), fun hb => ⟨by simpa using hb, fun m' _ hm' => by omega⟩⟩
                  · obtain ⟨m', rfl⟩ : ∃ x, m = x + 1 := ⟨m - 1, by omega⟩
                    obtain ⟨b3, o3, hka3, _, hkc3, hks3⟩ := Hk.out m' (by omega)
                    simp only [Option.some.injEq, Addr.mk.injEq, and_true] at hka3
                    obtain ⟨rfl, rfl⟩ := hka3
                    have hkc3' := (B7.out.cell (p := ⟨b1, o1 + m', none⟩) hb1).trans hkc3
                    obtain ⟨kp, hkp⟩ : ∃ x, x = t.ks[m'] := ⟨_, rfl⟩
                    rw [← hkp] at hkc3'
                    have HKP := Lib.hid hkp
                    have hz : ((m' : Int) + 1 == 0) = false := by rw [beq_eq_false_iff_ne]; omega
                    clear hkp hks3 hkc3 h0
                    go_wp2_with fail
                    refine wp_region_tail 17 (by kernel_rfl) (by kernel_rfl) ?_
                    simp only [List.take_succ_cons, List.take_zero, List.drop_succ_cons, List.drop_zero]
                    repeat (go_big_quiet_step (fail))
                    refine wpQuiet_nil ?_
                    go_wp2_with fail
                    refine (want_any _ (show Lk w7.drew b p' q7 bad7 from L7.out)).mono ?_
                    rintro e w8 ⟨rfl, hL, hg⟩
                    have L8 := Lib.hid hL; have G8 := Lib.hid hg
                    clear hL hg
                    go_wp2_with fail
                    go_meet
                    case rel =>
                      refine ⟨_, L8.out, (show w7.grownBy w8 (some b) from ⟨G8.out.os, G8.out.tape, G8.out.output, G8.out.size, G8.out.block⟩), fun hb => ?_⟩
                      simp at hb
                      refine ⟨hb.1, fun m2 hm2 hm' => ?_⟩
                      obtain rfl : m2 = m' := by omega
                      have e1 : kp = t.ks[m2] := HKP.out
                      have e2 : km = t.ks[m2 + 1] := HK.out
                      rw [← e1, ← e2]
                      exact hb.2
                  -- 4>
                case rest =>
                  obtain ⟨bad8, hL, hg, hi⟩ := hcut
                  obtain ⟨w8, rfl⟩ : ∃ x, x = wc := ⟨_, rfl⟩
                  clear f4 f5 hkc7
                  have e8 := E7.out.kept hg (by omega)
                  have ok8 : Ok p' q7 bad8 := fun hb => O7.out (hi hb).1
                  have hbl8 : Below B w w8 := B7.out.trans (below_of_grown hg hB (by have := L7.out.lt; omega))
                  have f5 := e8.c5
                  have h6' := HX.out.below hbl8 hb2
                  have hT' := HT6.out.go hbl8 (Nat.le_refl _)
                  have g0 := h6'.c0; have g1 := h6'.c1; have g2 := h6'.c2; have g3 := h6'.c3; have g4 := h6'.c4; have g5 := h6'.c5
                  have R8 := Lib.hid hT'
                  have L8 := Lib.hid hL; have G8 := Lib.hid (G7.out.trans hg); have I8 := Lib.hid hi; have O8 := Lib.hid ok8
                  clear hL hg hi ok8 hbl8 e8 h6' hT'
                  have hvm : m < vl := by have := KV1.out; omega
                  have T8 := Lib.hid (HT.out.below (below_of_grown G8.out hB (by simp; omega)) h40)
                  have S8 : SizeOf.sizeOf t.vs[m] ≤ n := by have := t.lt_vs (i := m) hmv; have := Hn.out; omega
                  have IH := ih t.vs[m] x (d + 1) p' q7 bad8 b B w8 S8 R8.out L8.out O8.out hB h40 T8.out (by omega) (by have := J1.out; omega)
                  unfold VC.val VC.arr at IH
                  have HI := Lib.hid IH
                  clear IH S8
                  go_wp2_with fail
                  refine HI.out.mono ?_
                  rintro e w9 ⟨v9, p9, q9, bad9, rfl, hL9, hg9, rfl, hi9⟩
                  have F9 := Lib.hid (KeysAt.step hmv (by omega) HK.out O6.out G8.out J6.out (fun hb => (I7.out hb).2) I8.out hL9 hg9 hi9)
                  clear hL9 hg9 hi9 f5 g0 g1 g2 g3 g4 g5
                  go_wp2_with fail
                  go_roundw
                  case rel => exact ⟨m + 1, by go_num, by omega, F9.out⟩
                  case measure => simp [intOf]; omega
              · go_wp2_with fail
                go_end0
                have hmk : m = kl := by omega
                subst hmk
                have a1 := J6.out
                have a2 := I5.out a1.1; have a3 := I4.out a2.1; have a4 := I3.out a3.1; have a5 := I2.out a4.1
                have a0 := HO.out J1.out.1
                have K := good_of Hh.out a5 a4.2 a0.2.2.1 a3.2 a2.2.1 a2.2.2.1 J1.out.2.1 a1.2.1 a1.2.2.1 a1.2.2.2.1 a1.2.2.2.2.1
                refine ⟨_, _, _, _, rfl, L6.out, (World.grownBy_alloc _ _ _).trans G6.out, rfl, fun _ => ⟨J1.out.1, K.1, K.2, a1.2.2.2.2.2.1, ?_, a1.2.2.2.2.2.2.2⟩⟩
                have := a1.2.2.2.2.2.2.1; have := a2.2.2.2.2.1; have := a3.2.1; omega
end Go.Proofs.YtnaijgdffbfapaaGreatDoor

namespace Go.Proofs.YtnaijgdffbfapaaGreatDoor
open Go.RowKit

theorem Good.own {t : T} (h : Good t) : Own1 t := by rw [Good] at h; exact h.1
theorem Good.l {t : T} (h : Good t) {i : Nat} (hi : i < t.l.length) : Good t.l[i] := by rw [Good] at h; exact h.2.1 i hi
theorem Good.vs {t : T} (h : Good t) {i : Nat} (hi : i < t.vs.length) : Good t.vs[i] := by rw [Good] at h; exact h.2.2.2.2 i hi

theorem jkind {t : T} (h : Own1 t) : t.j.kind = t.k := by
  have := h.k0; have := h.k6
  rw [T.j_eq]
  by_cases h0 : t.k = 0; · simp [h0, J.kind]
  by_cases h1 : t.k = 1; · simp [h1, J.kind]
  by_cases h2 : t.k = 2; · simp [h2, J.kind]
  by_cases h3 : t.k = 3; · simp [h3, J.kind]
  by_cases h4 : t.k = 4; · simp [h4, J.kind]
  by_cases h5 : t.k = 5; · simp [h5, J.kind]
  have h6 : t.k = 6 := by omega
  simp [h6, J.kind]

theorem jhalf {t : T} (h : Own1 t) : t.j.half = t.h := by
  have hh := h.half
  rw [T.j_eq]
  by_cases h3 : t.k = 3; · simp [h3, J.half]
  have h0 : t.h = 0 := by omega
  repeat' split
  all_goals simp_all [J.half]

theorem jtext {t : T} (h : Own1 t) : t.j.text = t.s := by
  have hh := h.text
  rw [T.j_eq]
  by_cases h3 : t.k = 4; · simp [h3, J.text]
  have h0 : t.s = ByteArray.empty := hh.resolve_left h3
  repeat' split
  all_goals simp_all [J.text]

theorem jlist {t : T} (h : Own1 t) : t.j.list = t.l.map T.j := by
  have hh := h.list
  rw [T.j_eq]
  by_cases h3 : t.k = 5; · simp [h3, J.list]
  have h0 : t.l = [] := hh.resolve_left h3
  repeat' split
  all_goals simp_all [J.list]

theorem jents {t : T} (h : Own1 t) : t.j.ents = t.ks.zip (t.vs.map T.j) := by
  have hh := h.keys; have h1 := h.k0; have h2 := h.k6
  rw [T.j_eq]
  by_cases h3 : t.k = 6; · simp [h3, J.ents]
  have h0 : t.ks = [] := hh.resolve_left h3
  repeat' split
  all_goals simp_all [J.ents]

/-- A right tree's reading is a JSON value's. -/
theorem VR.of {w : World} {B : Nat} {t : T} {c : VC} (hg : Good t) (h : TR w B t c) : VR w (· < B) t.j c := by
  have o := hg.own
  have ho := o.vals
  rw [TR] at h
  obtain ⟨hh, hl, hk, hv⟩ := h
  have e1 := jlist o; have e2 := jents o
  rw [VR]
  refine ⟨⟨?_, ?_, ?_, ?_, ?_, ?_, hh.lc, hh.kc, hh.vc, hh.ln, hh.kn, hh.vn⟩, fun i hi => ?_, fun i hi => ?_, fun i hi => ?_⟩
  · rw [hh.k, jkind o]
  · rw [hh.h, jhalf o]
  · rw [hh.s, jtext o]
  · rw [hh.ll, e1]; simp
  · rw [hh.kl, e2]; simp; omega
  · rw [hh.vl, e2]; simp; omega
  · have hi' : i < t.l.length := by rw [e1] at hi; simpa using hi
    obtain ⟨b, o', x, h1, h2, h3, h4⟩ := hl i hi'
    refine ⟨b, o', x, h1, h2, h3, ?_⟩
    have := VR.of (hg.l hi') h4
    simp only [e1, List.getElem_map]; exact this
  · have hi' : i < t.ks.length := by rw [e2] at hi; simp at hi; omega
    obtain ⟨b, o', h1, h2, h3, h4⟩ := hk i hi'
    refine ⟨b, o', h1, h2, ?_⟩
    simp only [e2, List.getElem_zip]; exact h3
  · have hi' : i < t.vs.length := by rw [e2] at hi; simp at hi; omega
    obtain ⟨b, o', x, h1, h2, h3, h4⟩ := hv i hi'
    refine ⟨b, o', x, h1, h2, h3, ?_⟩
    have := VR.of (hg.vs hi') h4
    simp only [e2, List.getElem_zip, List.getElem_map]; exact this
termination_by SizeOf.sizeOf t
decreasing_by
  · exact t.lt_l hi'
  · exact t.lt_vs hi'

theorem lk_alloc (w : World) : Lk (w.alloc (.cells #[.int .i64 0, .int .i64 0, .bool false] 55)) w.heap.size 0 0 false := heap_alloc_at _ _

theorem Fit_any {B : Nat} {t : T} {c : VC} {w : World} (hR : TR w B t c) (hB : B ≤ w.heap.size) (h40 : LB ≤ B) (hT : Tabs w) :
    Calls Tryz.prog 15 #[c.val] w fun e w' => ∃ b, e = .returned (.bool b) ∧ (b = true → Good t ∧ t.n ≤ 400) ∧ Below w.heap.size w w' := by
  have hb1 : Below w.heap.size w ((w.alloc (.cells c.arr 26)).alloc (.cells #[.int .i64 0, .int .i64 0, .bool false] 55)) := ((Below.refl _ _).alloc (Nat.le_refl _) _).alloc (by simp) _
  have hL := lk_alloc (w.alloc (.cells c.arr 26))
  have hR1 := hR.go (hb1.mono hB) (Nat.le_refl _)
  have hT1 := hT.below (hb1.mono hB) h40
  have H := look_any (SizeOf.sizeOf t) t c 0 0 0 false _ B _ (Nat.le_refl _) hR1 hL (fun _ => by omega) (by simp; omega) h40 hT1 (by omega) (by omega)
  have e : (w.alloc (.cells c.arr 26)).heap.size = w.heap.size + 1 := by simp
  rw [e] at H hL
  have h6 := Lib.hid (box_alloc w c)
  obtain ⟨k, h, s, la, ll, lc, ka, kl, kc, va, vl, vc⟩ := c
  unfold VC.val VC.arr at *
  have H1 := Lib.hid H
  have B1 := Lib.hid hb1
  clear H hb1 hL hR1 hT1 hR hT
  go_enter Tryz.func15, Tryz.ntmps15
  go_wp2_with fail
  refine H1.out.mono ?_
  rintro e w1 ⟨v, p, q, bad, rfl, hL, hg, rfl, hi⟩
  have k2 := hL.c2
  have hbb := B1.out.trans ⟨hg.os, hg.tape, hg.output, hg.size, fun k hk => hg.block k (by simp; omega) (by simp; omega)⟩
  have BB := Lib.hid hbb; have I := Lib.hid hi
  clear hg hi hbb hL
  go_wp2_with fail
  go_ret
  exact ⟨_, rfl, fun hb => by have := I.out (by simpa using hb); exact ⟨this.2.1, by omega⟩, BB.out⟩
end Go.Proofs.YtnaijgdffbfapaaGreatDoor

namespace Go.Proofs.YtnaijgdffbfapaaGreatDoor
open Go.RowKit

/-- Some answer, and nothing below is touched. -/
def SomeBool (w : World) (e : Ending) (w' : World) : Prop := ∃ b, e = .returned (.bool b) ∧ Below w.heap.size w w'

theorem zzFits2_any (ks : List ByteArray) (a : Option Addr) (cap : Nat) {w : World} (hl : ks.length ≤ 140737488351232)
    (ha : ∀ i (_ : i < ks.length), ∃ b o, a = some ⟨b, o, none⟩ ∧ b < w.heap.size ∧ w.cell? ⟨b, o + i, none⟩ = some (.string ks[i]) ∧ ks[i].size ≤ 140737488351232) :
    Calls Tryz.prog 14 #[.slice a ks.length cap] w (SomeBool w) := by
  have HA := Lib.hid ha
  clear ha
  go_enter Tryz.func14, Tryz.ntmps14
  go_wp2_with fail
  · go_ret
    exact ⟨false, rfl, Below.refl _ _⟩
  · go_loopw [10] (fun i wr => ∃ m : Nat, i = .int .i64 m ∧ m ≤ ks.length ∧ Below w.heap.size w wr) (fun i _ => ks.length - (intOf i).toNat)
    case atStart => exact ⟨0, rfl, Nat.zero_le _, Below.refl _ _⟩
    case round =>
      obtain ⟨m, rfl, hm, hbw⟩ := hrel
      have BW := Lib.hid hbw
      by_cases hlt : m < ks.length
      · obtain ⟨b1, o1, h1, h2, h3, h4⟩ := HA.out m hlt
        subst h1
        generalize ks[m] = s at h3 h4
        have c1 := (hbw.cell (p := ⟨b1, o1 + m, none⟩) h2).trans h3
        clear hbw h2 h3
        go_wp2_with fail
        · go_ret
          exact ⟨false, rfl, BW.out⟩
        · go_roundw
          case rel => exact ⟨m + 1, by go_num, by omega, BW.out⟩
          case measure => simp [intOf]; omega
      · clear hbw
        go_wp2_with fail
        go_ret
        exact ⟨true, rfl, BW.out⟩

theorem zzFits1_any (t : T) (c : VC) {B : Nat} {w : World} (hB : B ≤ w.heap.size) (hR : TR w B t c) :
    Calls Tryz.prog 4 #[c.val] w (SomeBool w) := by
  have hb0 : Below w.heap.size w (w.alloc (.cells c.arr 26)) := (Below.refl _ _).alloc (Nat.le_refl _) _
  have hR1 := hR.go (hb0.mono hB) (Nat.le_refl _)
  rw [TR] at hR1
  have hh := hR1.1
  have bx := Lib.hid (box_alloc w c)
  have Z := Lib.hid (zzFits2_any t.ks c.ka c.kc (w := w.alloc (.cells c.arr 26)) hh.bk (fun i hi => by
    obtain ⟨b, o, h1, h2, h3, h4⟩ := hR1.2.2.1 i hi
    exact ⟨b, o, h1, by simp; omega, h3, h4⟩))
  have HB0 := Lib.hid hb0
  have hs : c.s.size ≤ 140737488351232 := by rw [hh.s]; exact hh.bs
  have hll : c.ll ≤ 140737488351232 := by rw [hh.ll]; exact hh.bl
  have hvl : c.vl ≤ 140737488351232 := by rw [hh.vl]; exact hh.bv
  rw [← hh.kl] at Z
  clear hb0 hR hR1 hh
  obtain ⟨k0, h0, s0, la, ll, lc, ka, kl, kc, va, vl, vc⟩ := c
  simp only at hs hll hvl
  unfold VC.val
  unfold VC.arr at *
  go_enter Tryz.func4, Tryz.ntmps4
  go_wp2_with fail
  · go_ret
    exact ⟨false, rfl, HB0.out⟩
  · go_ret
    exact ⟨false, rfl, HB0.out⟩
  · refine Z.out.mono ?_
    rintro e w1 ⟨b, rfl, hb1⟩
    have W1 := Lib.hid (HB0.out.trans (hb1.mono HB0.out.size))
    have q5 := (bx.out.below hb1 (by simp)).c5
    clear hb1
    cases b
    · go_wp2_with fail
      go_ret
      exact ⟨_, rfl, W1.out⟩
    · go_wp2_with fail
      all_goals
        go_ret
        exact ⟨_, rfl, W1.out⟩
end Go.Proofs.YtnaijgdffbfapaaGreatDoor

namespace Go.Proofs.YtnaijgdffbfapaaGreatDoor
open Go.RowKit

theorem fits_any (ts : List T) (cs : Nat → VC) (N cap B : Nat) {w : World} (hl : ts.length ≤ 400) (hB : B ≤ w.heap.size) (h40 : LB ≤ B) (hT : Tabs w) (hN : N < w.heap.size)
    (ha : ∀ i (_ : i < ts.length), At6 w N (i * 6) (cs i) ∧ TR w B ts[i] (cs i)) :
    Calls Tryz.prog 5 #[.slice (some ⟨N, 0, none⟩) ts.length cap] w fun e w' => ∃ b, e = .returned (.bool b) ∧ (b = true → ∀ i (_ : i < ts.length), Good ts[i] ∧ ts[i].n ≤ 400) ∧ Below w.heap.size w w' := by
  have HA := Lib.hid ha; have HT := Lib.hid hT
  clear ha hT
  go_enter Tryz.func5, Tryz.ntmps5
  go_wp2_with fail
  go_loopw [7] (fun i wr => ∃ m : Nat, i = .int .i64 m ∧ m ≤ ts.length ∧ (∀ i (_ : i < ts.length), i < m → Good ts[i] ∧ ts[i].n ≤ 400) ∧ Below w.heap.size w wr) (fun i _ => ts.length - (intOf i).toNat)
  case atStart => exact ⟨0, rfl, Nat.zero_le _, fun i _ h => by omega, Below.refl _ _⟩
  case round =>
    obtain ⟨m, rfl, hm, hgood, hbw⟩ := hrel
    have BW := Lib.hid hbw; have GD := Lib.hid hgood
    clear hgood
    by_cases hlt : m < ts.length
    · obtain ⟨h1, h2⟩ := HA.out m hlt
      have c1 := h1.below hbw hN
      have g0 := c1.c0; have g1 := c1.c1; have g2 := c1.c2; have g3 := c1.c3; have g4 := c1.c4; have g5 := c1.c5
      have ba : Below B w (wr.alloc (.cells (cs m).arr 26)) := (hbw.mono hB).alloc (by have := hbw.size; omega) _
      have F := Lib.hid (Fit_any (h2.go ba (Nat.le_refl _)) (by have := hbw.size; simp; omega) h40 (HT.out.below ba h40))
      unfold VC.val VC.arr at F
      clear h1 h2 c1 hbw ba
      generalize cs m = x at *
      go_wp2_with fail
      refine F.out.mono ?_
      rintro e w2 ⟨b, rfl, hi, hb2⟩
      have B2 := Lib.hid ((BW.out.alloc BW.out.size _).trans (hb2.mono (by have := BW.out.size; simp; omega)))
      have HI := Lib.hid hi
      clear hb2 hi g0 g1 g2 g3 g4 g5
      cases b
      · go_wp2_with fail
        go_ret
        exact ⟨false, rfl, (fun h => by cases h), B2.out⟩
      · go_wp2_with fail
        go_roundw
        case rel => exact ⟨m + 1, by go_num, by omega, fun i hi him => by
          rcases Nat.lt_or_ge i m with h | h
          · exact GD.out i hi h
          · obtain rfl : i = m := by omega
            exact HI.out trivial, B2.out⟩
        case measure => simp [intOf]; omega
    · clear hbw
      go_wp2_with fail
      go_ret
      exact ⟨true, rfl, fun _ i hi => GD.out i hi (by omega), BW.out⟩
end Go.Proofs.YtnaijgdffbfapaaGreatDoor

namespace Go.Proofs.YtnaijgdffbfapaaGreatDoor
open Go.RowKit

/-- How many values a JSON value has. -/
def J.n : J → Nat
  | .arr l => 1 + (l.attach.map fun x => x.1.n).sum
  | .obj m => 1 + (m.attach.map fun x => x.1.2.n).sum
  | _ => 1
termination_by j => SizeOf.sizeOf j
decreasing_by
  · have := List.sizeOf_lt_of_mem x.2; simp; omega
  · have h1 := List.sizeOf_lt_of_mem x.2
    have h2 : SizeOf.sizeOf x.1.2 < SizeOf.sizeOf x.1 := by cases x.1; simp; omega
    simp; omega
theorem J.n_arr (l : List J) : (J.arr l).n = 1 + (l.map J.n).sum := by
  rw [J.n]; simp
theorem J.n_obj (m : List (ByteArray × J)) : (J.obj m).n = 1 + (m.map fun x => x.2.n).sum := by
  rw [J.n]; simp only [List.map_attach_eq_pmap, List.pmap_eq_map]
theorem J.n_leaf (j : J) (h1 : ∀ l, j ≠ .arr l) (h2 : ∀ m, j ≠ .obj m) : j.n = 1 := by
  cases j with
  | arr l => exact absurd rfl (h1 l)
  | obj m => exact absurd rfl (h2 m)
  | _ => rw [J.n] <;> intros <;> simp_all
theorem J.n_null : J.null.n = 1 := J.n_leaf _ (fun _ h => by cases h) (fun _ h => by cases h)
theorem J.n_bool (b : Bool) : (J.bool b).n = 1 := J.n_leaf _ (fun _ h => by cases h) (fun _ h => by cases h)
theorem J.n_num (h : Int) : (J.num h).n = 1 := J.n_leaf _ (fun _ h => by cases h) (fun _ h => by cases h)
theorem J.n_str (s : ByteArray) : (J.str s).n = 1 := J.n_leaf _ (fun _ h => by cases h) (fun _ h => by cases h)
theorem J.n_pos (j : J) : 1 ≤ j.n := by
  cases j with
  | arr l => rw [J.n_arr]; omega
  | obj m => rw [J.n_obj]; omega
  | null => rw [J.n_null]; omega
  | bool b => rw [J.n_bool]; omega
  | num b => rw [J.n_num]; omega
  | str b => rw [J.n_str]; omega

/-- A right tree's JSON value has no more values. -/
theorem T.j_n : ∀ (k : Nat) (t : T), SizeOf.sizeOf t ≤ k → Good t → t.j.n ≤ t.n
  | 0, t, hk, _ => by cases t; simp at hk
  | k + 1, t, hk, hg => by
    have o := hg.own
    have hn := T.n_eq t
    have sumle : ∀ (l : List T), (∀ i (h : i < l.length), l[i].j.n ≤ l[i].n) → (l.map fun x => x.j.n).sum ≤ (l.map T.n).sum := by
      intro l
      induction l with
      | nil => intro _; simp
      | cons x l ih =>
        intro h
        have h0 := h 0 (by simp)
        have h1 := ih fun i hi => by have := h (i + 1) (by simpa using hi); simpa using this
        simp only [List.map_cons, List.sum_cons]
        simp at h0
        omega
    have hl := sumle t.l fun i hi => T.j_n k t.l[i] (by have := t.lt_l hi; omega) (hg.l hi)
    have hv := sumle t.vs fun i hi => T.j_n k t.vs[i] (by have := t.lt_vs hi; omega) (hg.vs hi)
    rw [T.j_eq]
    split
    · rw [J.n_null]; omega
    · split
      · rw [J.n_bool]; omega
      · split
        · rw [J.n_bool]; omega
        · split
          · rw [J.n_num]; omega
          · split
            · rw [J.n_str]; omega
            · split
              · rw [J.n_arr, List.map_map]
                have : (t.l.map (J.n ∘ T.j)).sum = (t.l.map fun x => x.j.n).sum := rfl
                omega
              · rw [J.n_obj]
                have e : ((t.ks.zip (t.vs.map T.j)).map fun x => x.2.n) = t.vs.map fun x => x.j.n := by
                  have h1 : ((t.ks.zip (t.vs.map T.j)).map fun x => x.2.n) = ((t.ks.zip (t.vs.map T.j)).map (·.2)).map J.n := by rw [List.map_map]; rfl
                  rw [h1, List.map_snd_zip (by simp; exact Nat.le_of_eq o.vals.symm), List.map_map]; rfl
                rw [e]; omega

theorem J.n_mem {l : List J} {x : J} (h : x ∈ l) : x.n < (J.arr l).n := by
  rw [J.n_arr]
  have : x.n ≤ (l.map J.n).sum := by
    induction l with
    | nil => cases h
    | cons y l ih =>
      simp only [List.map_cons, List.sum_cons]
      rcases List.mem_cons.1 h with rfl | h
      · omega
      · have := ih h; omega
  omega

theorem J.len_le (l : List J) : l.length ≤ (J.arr l).n := by
  have h : l.length ≤ (l.map J.n).sum := by
    induction l with
    | nil => simp
    | cons x l ih => simp only [List.length_cons, List.map_cons, List.sum_cons]; have := J.n_pos x; omega
  rw [J.n_arr]; omega

/-- All elements, those of arrays in their place, all the way down. -/
def flatJ : J → List J
  | .arr l => (l.attach.map fun x => flatJ x.1).flatten
  | j => [j]
termination_by j => SizeOf.sizeOf j
decreasing_by
  · have := List.sizeOf_lt_of_mem x.2; simp; omega
theorem flatJ_arr (l : List J) : flatJ (.arr l) = (l.map flatJ).flatten := by
  rw [flatJ]; simp
theorem flatJ_other (j : J) (h : ∀ l, j ≠ .arr l) : flatJ j = [j] := by
  cases j with
  | arr l => exact absurd rfl (h l)
  | _ => rw [flatJ] <;> intros <;> simp_all

theorem flatJ_len : ∀ (k : Nat) (j : J), SizeOf.sizeOf j ≤ k → (flatJ j).length ≤ j.n
  | 0, j, h => by cases j <;> simp at h
  | k + 1, j, h => by
    cases j with
    | arr l =>
      rw [flatJ_arr, J.n_arr, List.length_flatten, List.map_map]
      have : ∀ l' : List J, (∀ x ∈ l', SizeOf.sizeOf x ≤ k) → (l'.map (List.length ∘ flatJ)).sum ≤ (l'.map J.n).sum := by
        intro l'
        induction l' with
        | nil => intro _; simp
        | cons y l' ih =>
          intro hl
          have h1 := flatJ_len k y (hl y (List.mem_cons_self))
          have h2 := ih fun x hx => hl x (List.mem_cons_of_mem _ hx)
          simp only [List.map_cons, List.sum_cons, Function.comp] at h2 ⊢
          omega
      have h2 := this l fun x hx => by have := List.sizeOf_lt_of_mem hx; simp at h; omega
      omega
    | _ => rw [flatJ_other _ (fun l h => by cases h)]; exact J.n_pos _

/-- What holds of all parts of a value holds of what flattening leaves. -/
theorem flatJ_mem {p : J → Prop} (hp : ∀ l, p (.arr l) → ∀ x ∈ l, p x) : ∀ (k : Nat) (j : J), SizeOf.sizeOf j ≤ k → p j → ∀ x ∈ flatJ j, p x
  | 0, j, h, _ => by cases j <;> simp at h
  | k + 1, j, h, hj => by
    cases j with
    | arr l =>
      intro x hx
      rw [flatJ_arr] at hx
      obtain ⟨l', hl', hx'⟩ := List.mem_flatten.1 hx
      obtain ⟨y, hy, rfl⟩ := List.mem_map.1 hl'
      exact flatJ_mem hp k y (by have := List.sizeOf_lt_of_mem hy; simp at h; omega) (hp l hj y hy) x hx'
    | _ => intro x hx; rw [flatJ_other _ (fun l h => by cases h)] at hx; obtain rfl := List.mem_singleton.1 hx; exact hj
end Go.Proofs.YtnaijgdffbfapaaGreatDoor

namespace Go.Proofs.YtnaijgdffbfapaaGreatDoor

theorem waysJ_arr (l : List J) : waysJ (.arr l) = [] :: l.zipIdx.flatMap fun x => (waysJ x.1).map (Stp.idx x.2 :: ·) := by
  rw [waysJ]
  congr 1
  have : l.zipIdx = l.attach.zipIdx.map fun x => (x.1.1, x.2) := by
    apply List.ext_getElem
    · simp
    · intro i h1 h2; simp
  rw [this, List.flatMap_map]
theorem waysJ_obj (m : List (ByteArray × J)) : waysJ (.obj m) = [] :: m.flatMap fun x => (waysJ x.2).map (Stp.key x.1 :: ·) := by
  rw [waysJ]
  congr 1
  have : m = m.attach.map (·.1) := (List.attach_map_subtype_val m).symm
  conv => rhs; rw [this]
  rw [List.flatMap_map]
theorem waysJ_leaf (j : J) (h1 : ∀ l, j ≠ .arr l) (h2 : ∀ m, j ≠ .obj m) : waysJ j = [[]] := by
  cases j with
  | arr l => exact absurd rfl (h1 l)
  | obj m => exact absurd rfl (h2 m)
  | _ => rw [waysJ] <;> intros <;> simp_all

theorem len_flatMap {α β : Type} (f : α → List β) (g : α → Nat) : ∀ l : List α, (∀ x ∈ l, (f x).length = g x) → (l.flatMap f).length = (l.map g).sum
  | [], _ => by simp
  | x :: l, h => by
    rw [List.flatMap_cons, List.length_append, List.map_cons, List.sum_cons, h x List.mem_cons_self, len_flatMap f g l fun y hy => h y (List.mem_cons_of_mem _ hy)]

theorem waysJ_len : ∀ (n : Nat) (j : J), SizeOf.sizeOf j ≤ n → (waysJ j).length = j.n
  | 0, j, h => by cases j <;> simp at h
  | n + 1, j, h => by
    cases j with
    | arr l =>
      rw [waysJ_arr, J.n_arr, List.length_cons, len_flatMap _ (fun x : J × Nat => x.1.n)]
      · rw [Nat.add_comm]
        congr 2
        apply List.ext_getElem
        · simp
        · intro i h1 h2; simp
      · intro x hx
        have hm : x.1 ∈ l := by
          obtain ⟨i, hi, e⟩ := List.getElem_of_mem hx
          rw [← e]; simp
        have := List.sizeOf_lt_of_mem hm
        rw [List.length_map]
        exact waysJ_len n x.1 (by simp at h; omega)
    | obj m =>
      rw [waysJ_obj, J.n_obj, List.length_cons, len_flatMap _ (fun x : ByteArray × J => x.2.n), Nat.add_comm]
      intro x hx
      have h1 := List.sizeOf_lt_of_mem hx
      have h2 : SizeOf.sizeOf x.2 < SizeOf.sizeOf x := by cases x; simp; omega
      rw [List.length_map]
      exact waysJ_len n x.2 (by simp at h; omega)
    | null => rw [waysJ_leaf _ (by simp) (by simp), J.n_null]; rfl
    | bool b => rw [waysJ_leaf _ (by simp) (by simp), J.n_bool]; rfl
    | num b => rw [waysJ_leaf _ (by simp) (by simp), J.n_num]; rfl
    | str b => rw [waysJ_leaf _ (by simp) (by simp), J.n_str]; rfl

/-- Each path leads to something, by no more steps than there are values. -/
theorem waysJ_leads : ∀ (n : Nat) (j : J), SizeOf.sizeOf j ≤ n → ∀ p ∈ waysJ j, (∃ z, Leads j p z) ∧ p.length < j.n
  | 0, j, h => by cases j <;> simp at h
  | n + 1, j, h => by
    intro p hp
    have le_sum : ∀ (l : List Nat) (x : Nat), x ∈ l → x ≤ l.sum := by
      intro l
      induction l with
      | nil => intro x hx; cases hx
      | cons y l ih =>
        intro x hx
        rw [List.sum_cons]
        rcases List.mem_cons.1 hx with rfl | hx
        · omega
        · have := ih x hx; omega
    cases j with
    | arr l =>
      rw [waysJ_arr] at hp
      rw [J.n_arr]
      rcases List.mem_cons.1 hp with rfl | hp
      · exact ⟨⟨_, .nil _⟩, by simp; omega⟩
      · obtain ⟨x, hx, hp⟩ := List.mem_flatMap.1 hp
        obtain ⟨q, hq, rfl⟩ := List.mem_map.1 hp
        obtain ⟨i, hi, e⟩ := List.getElem_of_mem hx
        have hi' : i < l.length := by simpa using hi
        have ex : x = (l[i], i) := by rw [← e]; simp
        subst ex
        have := List.sizeOf_lt_of_mem (List.getElem_mem hi')
        obtain ⟨⟨z, hz⟩, hl⟩ := waysJ_leads n l[i] (by simp at h; omega) q hq
        have := le_sum (l.map J.n) l[i].n (List.mem_map.2 ⟨_, List.getElem_mem hi', rfl⟩)
        exact ⟨⟨z, .idx hi' hz⟩, by rw [List.length_cons]; omega⟩
    | obj m =>
      rw [waysJ_obj] at hp
      rw [J.n_obj]
      rcases List.mem_cons.1 hp with rfl | hp
      · exact ⟨⟨_, .nil _⟩, by simp; omega⟩
      · obtain ⟨x, hx, hp⟩ := List.mem_flatMap.1 hp
        obtain ⟨q, hq, rfl⟩ := List.mem_map.1 hp
        have h1 := List.sizeOf_lt_of_mem hx
        have h2 : SizeOf.sizeOf x.2 < SizeOf.sizeOf x := by cases x; simp; omega
        obtain ⟨⟨z, hz⟩, hl⟩ := waysJ_leads n x.2 (by simp at h; omega) q hq
        have := le_sum (m.map fun x => x.2.n) x.2.n (List.mem_map.2 ⟨x, hx, rfl⟩)
        exact ⟨⟨z, .key (x := x.2) hx hz⟩, by rw [List.length_cons]; omega⟩
    | null => rw [waysJ_leaf _ (by simp) (by simp)] at hp; obtain rfl := List.mem_singleton.1 hp; exact ⟨⟨_, .nil _⟩, J.n_pos _⟩
    | bool b => rw [waysJ_leaf _ (by simp) (by simp)] at hp; obtain rfl := List.mem_singleton.1 hp; exact ⟨⟨_, .nil _⟩, J.n_pos _⟩
    | num b => rw [waysJ_leaf _ (by simp) (by simp)] at hp; obtain rfl := List.mem_singleton.1 hp; exact ⟨⟨_, .nil _⟩, J.n_pos _⟩
    | str b => rw [waysJ_leaf _ (by simp) (by simp)] at hp; obtain rfl := List.mem_singleton.1 hp; exact ⟨⟨_, .nil _⟩, J.n_pos _⟩

/-- All but the first are paths to something within. -/
theorem waysJ_tail (j : J) {p : List Stp} {i : Nat} (hi : 0 < i) (hp : (waysJ j)[i]? = some p) : p ≠ [] := by
  cases j with
  | arr l =>
    rw [waysJ_arr] at hp
    obtain ⟨i, rfl⟩ : ∃ k, i = k + 1 := ⟨i - 1, by omega⟩
    rw [List.getElem?_cons_succ] at hp
    obtain ⟨x, _, hp⟩ := List.mem_flatMap.1 (List.mem_of_getElem? hp)
    obtain ⟨q, _, rfl⟩ := List.mem_map.1 hp
    simp
  | obj m =>
    rw [waysJ_obj] at hp
    obtain ⟨i, rfl⟩ : ∃ k, i = k + 1 := ⟨i - 1, by omega⟩
    rw [List.getElem?_cons_succ] at hp
    obtain ⟨x, _, hp⟩ := List.mem_flatMap.1 (List.mem_of_getElem? hp)
    obtain ⟨q, _, rfl⟩ := List.mem_map.1 hp
    simp
  | _ =>
    rw [waysJ_leaf _ (by simp) (by simp)] at hp
    obtain ⟨i, rfl⟩ : ∃ k, i = k + 1 := ⟨i - 1, by omega⟩
    simp at hp
end Go.Proofs.YtnaijgdffbfapaaGreatDoor
