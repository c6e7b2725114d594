/- A part of the proof. A part of the proof. A part of the proof. -/
import Derived.Test.YtofpdcjgakmlnaaGreatDoorM25
import Derived.Test.YtofpdcjgakmlnaaGreatDoorZARow
import Derived.Deep.RegionHeldLaw
import Derived.LoopTactic
namespace Go.Proofs.YtofpdcjgakmlnaaGreatDoor
open Go.RowKit Go.Shelf Go.Lib

/-- Of the first k, each that parts from the one before it. -/
def uqTake (N : Nat) (s : Nat → J) : Nat → List J
  | 0 => []
  | k + 1 => uqTake N s k ++ if k = 0 ∨ cmpN N (s (k - 1)) (s k) ≠ 0 then [s k] else []
theorem uqTake_len (N : Nat) (s : Nat → J) : ∀ k, (uqTake N s k).length ≤ k
  | 0 => Nat.le_refl _
  | k + 1 => by
    have := uqTake_len N s k
    simp only [uqTake, List.length_append]
    split <;> simp <;> omega
theorem uqTake_yes {N : Nat} {s : Nat → J} {k : Nat} (h : k = 0 ∨ cmpN N (s (k - 1)) (s k) ≠ 0) : uqTake N s (k + 1) = uqTake N s k ++ [s k] := by rw [uqTake, if_pos h]
theorem uqTake_no {N : Nat} {s : Nat → J} {k : Nat} (h : ¬ (k = 0 ∨ cmpN N (s (k - 1)) (s k) ≠ 0)) : uqTake N s (k + 1) = uqTake N s k := by rw [uqTake, if_neg h, List.append_nil]

/-- What the append's own cell leaves as it was. -/
theorem kept_alloc {w1 wr : World} {V x : Value} {B : Nat} (p0 : wr.cell? ⟨B, 0, none⟩ = some V) (p1 : wr.cell? ⟨B, 1, none⟩ = some x) (hB : B < wr.heap.size) (sz : w1.heap.size ≤ wr.heap.size) (hb : Below w1.heap.size w1 wr) :
    ((wr.alloc (.cells #[V] 20)).drew.cell? ⟨B, 0, none⟩ = some V ∧ (wr.alloc (.cells #[V] 20)).drew.cell? ⟨B, 1, none⟩ = some x ∧ Below w1.heap.size w1 (wr.alloc (.cells #[V] 20)).drew) ∧
      Below wr.heap.size wr (wr.alloc (.cells #[V] 20)).drew ∧ ∀ j u, [V][j]? = some u → (wr.alloc (.cells #[V] 20)).drew.cell? ((⟨wr.heap.size, 0, none⟩ : Addr).add j) = some u := by
  have bA : Below wr.heap.size wr (wr.alloc (.cells #[V] 20)).drew := ((Below.refl _ _).alloc (Nat.le_refl _) _).drew
  exact ⟨⟨(bA.cell (p := ⟨B, 0, none⟩) hB).trans p0, (bA.cell (p := ⟨B, 1, none⟩) hB).trans p1, hb.trans (bA.mono sz)⟩, bA, fun j u h => news_one wr V _ j u h⟩
theorem kept_append {lo : Nat} {w1 wr w2 w3 : World} {V x : Value} {B : Nat} {v : Value} {xs : List Value} (h : wr.ownsRow lo 20 1 v xs.length xs) {Q : Prop} (hw : (w2.cell? ⟨B, 0, none⟩ = some V ∧ w2.cell? ⟨B, 1, none⟩ = some x ∧ Below lo w1 w2) ∧ Q) (hB : B < lo) (hlo : lo ≤ w2.heap.size) (hg : w2.grownBy w3 v.ownBlock) :
    w3.cell? ⟨B, 0, none⟩ = some V ∧ w3.cell? ⟨B, 1, none⟩ = some x ∧ Below lo w1 w3 := by
  have hne : some B ≠ v.ownBlock := fun e => by have := (h.lt B e.symm).1; omega
  exact ⟨(hg.cell_far ⟨B, 0, none⟩ (by show B < _; omega) hne).trans hw.1.1, (hg.cell_far ⟨B, 1, none⟩ (by show B < _; omega) hne).trans hw.1.2.1, hw.1.2.2.grown hg hlo (fun k hk => (h.lt k hk).1)⟩

set_option maxRecDepth 100000 in
set_option maxHeartbeats 2000000 in
theorem uniqueBy_any (N : Nat) (l : List J) (nm : ByteArray) (a : Option Addr) (cap : Nat) (w : World) (S : Nat → Prop) (hl : l.length ≤ 400) (hN : ∀ x ∈ l, SizeOf.sizeOf x ≤ N) (hok : ∀ x ∈ l, JOK x) (hS : ∀ b, S b → b < w.heap.size)
    (helem : ∀ i (_ : i < l.length), ∃ b o x, a = some ⟨b, o, none⟩ ∧ S b ∧ w.cell? ⟨b, o + i, none⟩ = some x ∧ JR w S l[i] x) :
    Calls Tryz.prog 39 #[.string nm, .iface 48 (.slice a l.length cap), .iface 48 (.slice a l.length cap)] w fun e w' => (∃ s : Nat → J, ∃ v xs, e = .returned (.iface 48 v) ∧ ((List.range l.length).map s).Perm l ∧ SortedOn (fun p q : J => cmpN N p q ≤ 0) 0 l.length s ∧ ∃ lo, w.heap.size ≤ lo ∧ ARow lo S (uqTake N s l.length) v xs w') ∧ Below w.heap.size w w' := by
  have SI := Lib.hid (sortItems_any N l nm a cap w S hl hN hok hS helem)
  obtain ⟨i0, hi, hz0, hz1, hz2⟩ := info_parts info_any
  have I0 := Lib.hid hi; have I1 := Lib.hid hz0; have I2 := Lib.hid hz1; have I3 := Lib.hid hz2
  have HS := Lib.hid hS; have HN := Lib.hid hN; have HOK := Lib.hid hok
  clear helem hS hN hok hi hz0 hz1 hz2
  go_enter Tryz.func39, Tryz.ntmps39
  go_wp2_with fail
  refine SI.out.mono ?_
  rintro e w1 ⟨⟨R, g, rfl, hso⟩, hb1⟩
  have SO := Lib.hid hso
  have B1 := Lib.hid hb1
  have sz1 := hb1.size
  clear hso hb1 SI
  go_wp2_with fail
  have hw0 : ARow w1.heap.size S [] (.slice (some ⟨w1.heap.size, 0, none⟩) 0 0) [] (w1.alloc (.cells #[] 20)) := ⟨World.ownsRow_lit w1 #[] 0 (Nat.le_refl _) (by unfold maxLen; omega) rfl, rfl, fun i hi => absurd hi (Nat.not_lt_zero i)⟩
  have W0 := Lib.hid hw0
  have PM := Lib.hid SO.out.2.2.1
  have OKS : Hid (∀ k, k < l.length → JOK (g k).2 ∧ SizeOf.sizeOf (g k).2 ≤ N) := Lib.hid fun k hk => by
    have : (g k).2 ∈ l := PM.out.subset (List.mem_map.2 ⟨k, List.mem_range.2 hk, rfl⟩)
    exact ⟨HOK.out _ this, HN.out _ this⟩
  have HS1 : Hid (∀ b, S b → b < w1.heap.size) := Lib.hid fun b h => Nat.lt_of_lt_of_le (HS.out b h) sz1
  clear hw0
  go_loopw [9, 10, 26] (fun out last i wr => ∃ (k : Nat) (xs : List Value) (la : Option Addr) (lc : Nat), out = .slice la xs.length lc ∧ i = .int .i64 k ∧ k ≤ l.length ∧ ARow w1.heap.size S (uqTake N (fun i => (g i).2) k) out xs wr ∧ (0 < k → JR wr S (g (k - 1)).2 last) ∧ Below w1.heap.size w1 wr) (fun _ _ i _ => l.length - (intOf i).toNat)
  case atStart => exact ⟨0, [], _, 0, rfl, rfl, Nat.zero_le _, W0.out, fun h => absurd h (by omega), (Below.refl _ _).alloc (Nat.le_refl _) _⟩
  case round =>
    obtain ⟨k, xs, la, lc, rfl, rfl, hk, hG, hlast, hb⟩ := hrel
    have hx400 : xs.length ≤ 400 := by have := uqTake_len N (fun i => (g i).2) k; have := hG.2.1; omega
    have GG := Lib.hid hG; have WB := Lib.hid hb; have LA := Lib.hid hlast
    clear hG hb hlast
    by_cases hlt : k < l.length
    · obtain ⟨v, x, hp, hv, hx⟩ := SO.out.2.1 k hlt
      have hlo1 : (g k).1 < w1.heap.size := by
        rcases Nat.lt_or_ge (g k).1 w1.heap.size with h' | h'
        · exact h'
        · rw [Array.getElem?_eq_none h'] at hp; cases hp
      have hp' := (WB.out.block _ hlo1).trans hp
      have p0 : wr.cell? ⟨(g k).1, 0, none⟩ = some v := by rw [Lib.cell_of_heap hp']; rfl
      have p1 : wr.cell? ⟨(g k).1, 1, none⟩ = some x := by rw [Lib.cell_of_heap hp']; rfl
      have hR := SO.out.1
      have hRlt : R < w1.heap.size := SO.out.2.2.2.2.2.1
      have cR : wr.cell? ⟨R, k, none⟩ = some (ptrOf (g k).1) := by
        rw [Lib.cell_of_heap ((WB.out.block _ hRlt).trans hR)]
        have : k < (rowOf g l.length).length := by rw [rowOf_len]; exact hlt
        simp [this, rowOf_get]
      have hv' := hv.go (w' := wr) (fun b h => WB.out.block b (HS1.out b h)) (fun _ h => h)
      have hx' := hx.go (w' := wr) (fun b h => WB.out.block b (HS1.out b h)) (fun _ h => h)
      have sz := WB.out.size
      unfold ptrOf at cR
      have form := hv'.form
      have V0 := Lib.hid hv'
      have X0 := Lib.hid hx'
      have P0 := Lib.hid hp
      have ok := OKS.out k hlt
      have C := Lib.hid fun (h0 : 0 < k) => Compare_any N (g (k - 1)).2 (g k).2 u10 x S wr (OKS.out (k - 1) (by omega)).2 (OKS.out (k - 1) (by omega)).1 ok.1 (LA.out h0) hx' (fun b h => Nat.lt_of_lt_of_le (HS1.out b h) sz)
      clear hp hv hx hp' hR hv' hx' ok
      by_cases h0 : k = 0
      · have hk0 : ((k : Int) == 0) = true := by simp [h0]
        have UQ : Hid (uqTake N (fun i => (g i).2) (k + 1) = uqTake N (fun i => (g i).2) k ++ [(g k).2]) := Lib.hid (uqTake_yes (.inl h0))
        clear h0 C
        rcases form with rfl | ⟨t', u, rfl⟩
        · have KA := Lib.hid (kept_alloc (wr := wr) (V := .nilIface) (x := x) (B := (g k).1) p0 p1 (by omega) sz WB.out)
          have KG := Lib.hid fun w3 hgw => kept_append (x := x) (B := (g k).1) (w3 := w3) GG.out.1 KA.out hlo1 (by have := KA.out.2.1.size; omega) hgw
          go_wp2_with fail
          have S0 := And.intro p0 (And.intro p1 WB.out.drew)
          have S1 := KA.out.1
          go_region_held_law (fun w' => w'.cell? ⟨(g k).1, 0, none⟩ = some .nilIface ∧ w'.cell? ⟨(g k).1, 1, none⟩ = some x ∧ Below w1.heap.size w1 w')
            (first
              | go_keep
              | exact S0
              | exact S1
              | exact S3)
            (first
              | (refine step_append_lies _ rfl _ _ 48 rfl w1.heap.size 20 i0 .nilIface 1 16 Tryz.underlying48 I0.out I1.out I2.out I3.out rfl (by omega) (.slice la xs.length lc) xs.length xs rfl (row_below GG.out.1 KA.out.2.1) ⟨wr.heap.size, 0, none⟩ 1 1 [.nilIface] rfl rfl KA.out.2.2 (by simp; rfl) (by omega) (by unfold maxLen; omega) (by omega) (by simp; omega) (wr.heap.size + 1) (by simp) ?_
                 intro g9 cp w3 hown3 hgrow hat hlt3
                 have S3 := KG.out _ hgrow
                 have OW := Lib.hid hown3
                 have GW := Lib.hid hgrow
                 clear hown3 hgrow hat))
          all_goals
            go_wp2_with fail
            go_roundw
            case rel =>
              have bA := KA.out.2.1
              have hfin := (GG.out.below bA HS1.out sz).one (V0.out.go (fun b hb => bA.block b (by have := HS1.out b hb; omega)) (fun _ h => h)) OW.out GW.out HS1.out (by have := bA.size; omega)
              rw [← UQ.out] at hfin
              refine ⟨k + 1, xs ++ [.nilIface], some ⟨g9, 0, none⟩, cp, by simp, by go_num, by omega, by simpa using hfin, fun _ => ?_, (WB.out.trans (bA.mono sz)).grown GW.out (by have := bA.size; omega) (fun k hk => (GG.out.1.lt k hk).1)⟩
              rw [Nat.add_sub_cancel]
              refine X0.out.go (fun b hb => (GW.out.block b (by have := HS1.out b hb; have := bA.size; omega) (fun e => ?_)).trans (bA.block b (by have := HS1.out b hb; omega))) (fun _ h => h)
              have := (GG.out.1.lt b e.symm).1
              have := HS1.out b hb
              omega
            case measure => simp [intOf]; omega
        · have KA := Lib.hid (kept_alloc (wr := wr) (V := (.iface t' u)) (x := x) (B := (g k).1) p0 p1 (by omega) sz WB.out)
          have KG := Lib.hid fun w3 hgw => kept_append (x := x) (B := (g k).1) (w3 := w3) GG.out.1 KA.out hlo1 (by have := KA.out.2.1.size; omega) hgw
          go_wp2_with fail
          have S0 := And.intro p0 (And.intro p1 WB.out.drew)
          have S1 := KA.out.1
          go_region_held_law (fun w' => w'.cell? ⟨(g k).1, 0, none⟩ = some (.iface t' u) ∧ w'.cell? ⟨(g k).1, 1, none⟩ = some x ∧ Below w1.heap.size w1 w')
            (first
              | go_keep
              | exact S0
              | exact S1
              | exact S3)
            (first
              | (refine step_append_lies _ rfl _ _ 48 rfl w1.heap.size 20 i0 .nilIface 1 16 Tryz.underlying48 I0.out I1.out I2.out I3.out rfl (by omega) (.slice la xs.length lc) xs.length xs rfl (row_below GG.out.1 KA.out.2.1) ⟨wr.heap.size, 0, none⟩ 1 1 [(.iface t' u)] rfl rfl KA.out.2.2 (by simp; rfl) (by omega) (by unfold maxLen; omega) (by omega) (by simp; omega) (wr.heap.size + 1) (by simp) ?_
                 intro g9 cp w3 hown3 hgrow hat hlt3
                 have S3 := KG.out _ hgrow
                 have OW := Lib.hid hown3
                 have GW := Lib.hid hgrow
                 clear hown3 hgrow hat))
          all_goals
            go_wp2_with fail
            go_roundw
            case rel =>
              have bA := KA.out.2.1
              have hfin := (GG.out.below bA HS1.out sz).one (V0.out.go (fun b hb => bA.block b (by have := HS1.out b hb; omega)) (fun _ h => h)) OW.out GW.out HS1.out (by have := bA.size; omega)
              rw [← UQ.out] at hfin
              refine ⟨k + 1, xs ++ [(.iface t' u)], some ⟨g9, 0, none⟩, cp, by simp, by go_num, by omega, by simpa using hfin, fun _ => ?_, (WB.out.trans (bA.mono sz)).grown GW.out (by have := bA.size; omega) (fun k hk => (GG.out.1.lt k hk).1)⟩
              rw [Nat.add_sub_cancel]
              refine X0.out.go (fun b hb => (GW.out.block b (by have := HS1.out b hb; have := bA.size; omega) (fun e => ?_)).trans (bA.block b (by have := HS1.out b hb; omega))) (fun _ h => h)
              have := (GG.out.1.lt b e.symm).1
              have := HS1.out b hb
              omega
            case measure => simp [intOf]; omega
      · have hk0 : ((k : Int) == 0) = false := by simp [h0]
        have C := Lib.hid (C.out (by omega))
        have H0 := Lib.hid h0
        clear h0
        go_wp2_with fail
        refine C.out.mono ?_
        rintro e w2 ⟨rfl, hb2⟩
        have B2 := Lib.hid hb2
        have sz2 : w1.heap.size ≤ w2.heap.size := Nat.le_trans sz hb2.size
        have sz3 := hb2.size
        have WB2 := Lib.hid (WB.out.trans (hb2.mono sz))
        have GG2 := Lib.hid (GG.out.below hb2 HS1.out sz)
        have V2 := Lib.hid (V0.out.go (w' := w2) (fun b h => hb2.block b (Nat.lt_of_lt_of_le (HS1.out b h) sz)) (fun _ h => h))
        have X2 := Lib.hid (X0.out.go (w' := w2) (fun b h => hb2.block b (Nat.lt_of_lt_of_le (HS1.out b h) sz)) (fun _ h => h))
        have q0 := (hb2.cell (p := ⟨(g k).1, 0, none⟩) (by show (g k).1 < _; omega)).trans p0
        have q1 := (hb2.cell (p := ⟨(g k).1, 1, none⟩) (by show (g k).1 < _; omega)).trans p1
        clear hb2 C p0 p1 cR
        by_cases hc : cmpN N (g (k - 1)).2 (g k).2 = 0
        · have UQ : Hid (uqTake N (fun i => (g i).2) (k + 1) = uqTake N (fun i => (g i).2) k) := Lib.hid (uqTake_no (fun h => h.elim H0.out (fun h => h hc)))
          have SM : Hid ((g (k - 1)).2 = (g k).2) := Lib.hid (cmpN_zero N _ _ (OKS.out (k - 1) (by omega)).2 hc)
          rw [hc]
          clear hc
          go_wp2_with fail
          go_roundw
          case rel =>
            refine ⟨k + 1, xs, la, lc, rfl, by go_num, by omega, by rw [UQ.out]; exact GG2.out, fun _ => ?_, WB2.out⟩
            rw [Nat.add_sub_cancel, ← SM.out]
            exact (LA.out (by have := H0.out; omega)).go (fun b h => B2.out.block b (Nat.lt_of_lt_of_le (HS1.out b h) sz)) (fun _ h => h)
          case measure => simp [intOf]; omega
        · have UQ : Hid (uqTake N (fun i => (g i).2) (k + 1) = uqTake N (fun i => (g i).2) k ++ [(g k).2]) := Lib.hid (uqTake_yes (.inr hc))
          have hcb : (cmpN N (g (k - 1)).2 (g k).2 != 0) = true := by simp [hc]
          have hcc : (cmpN N (g (k - 1)).2 (g k).2 == 0) = false := by simp [hc]
          rcases form with rfl | ⟨t', u, rfl⟩
          · have KA := Lib.hid (kept_alloc (wr := w2) (V := .nilIface) (x := x) (B := (g k).1) q0 q1 (by omega) sz2 WB2.out)
            have KG := Lib.hid fun w3 hgw => kept_append (x := x) (B := (g k).1) (w3 := w3) GG2.out.1 KA.out hlo1 (by have := KA.out.2.1.size; omega) hgw
            go_wp2_with fail
            have S0 := And.intro q0 (And.intro q1 WB2.out.drew)
            have S1 := KA.out.1
            go_region_held_law (fun w' => w'.cell? ⟨(g k).1, 0, none⟩ = some .nilIface ∧ w'.cell? ⟨(g k).1, 1, none⟩ = some x ∧ Below w1.heap.size w1 w')
              (first
                | go_keep
                | exact S0
                | exact S1
                | exact S3)
              (first
                | (refine step_append_lies _ rfl _ _ 48 rfl w1.heap.size 20 i0 .nilIface 1 16 Tryz.underlying48 I0.out I1.out I2.out I3.out rfl (by omega) (.slice la xs.length lc) xs.length xs rfl (row_below GG2.out.1 KA.out.2.1) ⟨w2.heap.size, 0, none⟩ 1 1 [.nilIface] rfl rfl KA.out.2.2 (by simp; rfl) (by omega) (by unfold maxLen; omega) (by omega) (by simp; omega) (w2.heap.size + 1) (by simp) ?_
                   intro g9 cp w3 hown3 hgrow hat hlt3
                   have S3 := KG.out _ hgrow
                   have OW := Lib.hid hown3
                   have GW := Lib.hid hgrow
                   clear hown3 hgrow hat))
            all_goals
              go_wp2_with fail
              go_roundw
              case rel =>
                have bA := KA.out.2.1
                have hfin := (GG2.out.below bA HS1.out sz2).one (V2.out.go (fun b hb => bA.block b (by have := HS1.out b hb; omega)) (fun _ h => h)) OW.out GW.out HS1.out (by have := bA.size; omega)
                rw [← UQ.out] at hfin
                refine ⟨k + 1, xs ++ [.nilIface], some ⟨g9, 0, none⟩, cp, by simp, by go_num, by omega, by simpa using hfin, fun _ => ?_, (WB2.out.trans (bA.mono sz2)).grown GW.out (by have := bA.size; omega) (fun k hk => (GG2.out.1.lt k hk).1)⟩
                rw [Nat.add_sub_cancel]
                refine X2.out.go (fun b hb => (GW.out.block b (by have := HS1.out b hb; have := bA.size; omega) (fun e => ?_)).trans (bA.block b (by have := HS1.out b hb; omega))) (fun _ h => h)
                have := (GG2.out.1.lt b e.symm).1
                have := HS1.out b hb
                omega
              case measure => simp [intOf]; omega
          · have KA := Lib.hid (kept_alloc (wr := w2) (V := (.iface t' u)) (x := x) (B := (g k).1) q0 q1 (by omega) sz2 WB2.out)
            have KG := Lib.hid fun w3 hgw => kept_append (x := x) (B := (g k).1) (w3 := w3) GG2.out.1 KA.out hlo1 (by have := KA.out.2.1.size; omega) hgw
            go_wp2_with fail
            have S0 := And.intro q0 (And.intro q1 WB2.out.drew)
            have S1 := KA.out.1
            go_region_held_law (fun w' => w'.cell? ⟨(g k).1, 0, none⟩ = some (.iface t' u) ∧ w'.cell? ⟨(g k).1, 1, none⟩ = some x ∧ Below w1.heap.size w1 w')
              (first
                | go_keep
                | exact S0
                | exact S1
                | exact S3)
              (first
                | (refine step_append_lies _ rfl _ _ 48 rfl w1.heap.size 20 i0 .nilIface 1 16 Tryz.underlying48 I0.out I1.out I2.out I3.out rfl (by omega) (.slice la xs.length lc) xs.length xs rfl (row_below GG2.out.1 KA.out.2.1) ⟨w2.heap.size, 0, none⟩ 1 1 [(.iface t' u)] rfl rfl KA.out.2.2 (by simp; rfl) (by omega) (by unfold maxLen; omega) (by omega) (by simp; omega) (w2.heap.size + 1) (by simp) ?_
                   intro g9 cp w3 hown3 hgrow hat hlt3
                   have S3 := KG.out _ hgrow
                   have OW := Lib.hid hown3
                   have GW := Lib.hid hgrow
                   clear hown3 hgrow hat))
            all_goals
              go_wp2_with fail
              go_roundw
              case rel =>
                have bA := KA.out.2.1
                have hfin := (GG2.out.below bA HS1.out sz2).one (V2.out.go (fun b hb => bA.block b (by have := HS1.out b hb; omega)) (fun _ h => h)) OW.out GW.out HS1.out (by have := bA.size; omega)
                rw [← UQ.out] at hfin
                refine ⟨k + 1, xs ++ [(.iface t' u)], some ⟨g9, 0, none⟩, cp, by simp, by go_num, by omega, by simpa using hfin, fun _ => ?_, (WB2.out.trans (bA.mono sz2)).grown GW.out (by have := bA.size; omega) (fun k hk => (GG2.out.1.lt k hk).1)⟩
                rw [Nat.add_sub_cancel]
                refine X2.out.go (fun b hb => (GW.out.block b (by have := HS1.out b hb; have := bA.size; omega) (fun e => ?_)).trans (bA.block b (by have := HS1.out b hb; omega))) (fun _ h => h)
                have := (GG2.out.1.lt b e.symm).1
                have := HS1.out b hb
                omega
              case measure => simp [intOf]; omega
    · have hkl : k = l.length := by omega
      subst hkl
      clear OKS
      go_wp2_with fail
      go_ret
      refine ⟨⟨fun i => (g i).2, _, xs, rfl, PM.out, SO.out.2.2.2.1, _, sz1, GG.out⟩, B1.out.trans (WB.out.mono sz1)⟩
end Go.Proofs.YtofpdcjgakmlnaaGreatDoor

namespace Go.Proofs.YtofpdcjgakmlnaaGreatDoor
open Go.RowKit

/-- The values in order. -/
def sortJ (N : Nat) (l : List J) : List J := l.mergeSort fun a b => decide (cmpN N a b ≤ 0)
/-- The values in order, each once. -/
def uqJ (N : Nat) (l : List J) : List J := uqTake N (fun i => (sortJ N l).getD i .null) l.length

theorem sortJ_perm (N : Nat) (l : List J) : (sortJ N l).Perm l := List.mergeSort_perm l _
theorem sortJ_sorted (N : Nat) (l : List J) : (sortJ N l).Pairwise fun a b => cmpN N a b ≤ 0 := by
  have h := List.pairwise_mergeSort (le := fun a b : J => decide (cmpN N a b ≤ 0)) (fun a b c h1 h2 => by
    rw [decide_eq_true_eq] at *; exact cmpN_trans N a b c h1 h2) (fun a b => by
    have := cmpN_anti N a b
    rw [Bool.or_eq_true, decide_eq_true_eq, decide_eq_true_eq]; omega) l
  exact h.imp fun h => by simpa using h

theorem uqTake_same {N : Nat} {s s' : Nat → J} : ∀ k, (∀ i, i < k → s i = s' i) → uqTake N s k = uqTake N s' k
  | 0, _ => rfl
  | k + 1, h => by
    rw [uqTake, uqTake, uqTake_same k fun i hi => h i (by omega), h k (by omega), h (k - 1) (by omega)]

theorem uq_eq {N : Nat} {l : List J} {s : Nat → J} (hN : ∀ x ∈ l, SizeOf.sizeOf x ≤ N) (hp : ((List.range l.length).map s).Perm l) (hs : SortedOn (fun p q : J => cmpN N p q ≤ 0) 0 l.length s) : uqTake N s l.length = uqJ N l := by
  have h1 : ((List.range l.length).map s).Pairwise fun a b => cmpN N a b ≤ 0 := by
    rw [List.pairwise_iff_getElem]
    intro i j hi hj hij
    simp only [List.length_map, List.length_range] at hi hj
    simpa using hs i j (Nat.zero_le _) hij hj
  have e : (List.range l.length).map s = sortJ N l := by
    refine List.Perm.eq_of_pairwise ?_ h1 (sortJ_sorted N l) (hp.trans (sortJ_perm N l).symm)
    intro a b ha _ h2 h3
    have := cmpN_anti N a b
    exact cmpN_zero N a b (hN a (hp.subset ha)) (by omega)
  refine uqTake_same _ fun i hi => ?_
  rw [← e]
  simp [List.getD_eq_getElem?_getD, hi]
end Go.Proofs.YtofpdcjgakmlnaaGreatDoor

namespace Go.Proofs.YtofpdcjgakmlnaaGreatDoor
open Go.RowKit

set_option maxRecDepth 100000 in
/-- unique of an array. -/
theorem funcUnique_arr {w : World} {S : Nat → Prop} (N : Nat) {l : List J} {v : Value} (hV : JR w S (.arr l) v) (hl : l.length ≤ 400) (hN : ∀ x ∈ l, SizeOf.sizeOf x ≤ N) (hok : ∀ x ∈ l, JOK x) (hS : ∀ b, S b → b < w.heap.size) :
    Calls Tryz.prog 20 #[v] w (GIn S w (.value (.arr (uqJ N l)))) := by
  obtain ⟨a, cap, rfl, hel⟩ := hV.arr
  have U := Lib.hid fun nm => uniqueBy_any N l nm a cap w S hl hN hok hS hel
  have HN := Lib.hid hN
  clear hV hel hok hS hN
  go_enter Tryz.func20, Tryz.ntmps20
  go_wp2_with fail
  refine (U.out _).mono ?_
  rintro e w1 ⟨⟨s, v, xs, rfl, hp, hso, lo, hlo, hA⟩, hb⟩
  rw [uq_eq HN.out hp hso] at hA
  have HA := Lib.hid hA
  have HB := Lib.hid hb
  clear hp hso hA hb U
  go_wp2_with fail
  go_ret
  obtain ⟨a', cap', rfl⟩ := row_form HA.out.1
  exact ⟨_, rfl, (HA.out.jr HA.out.2.1).mono fun b hb => hb.imp id fun h => ⟨Nat.le_trans hlo h.1, h.2⟩, HB.out⟩
end Go.Proofs.YtofpdcjgakmlnaaGreatDoor
