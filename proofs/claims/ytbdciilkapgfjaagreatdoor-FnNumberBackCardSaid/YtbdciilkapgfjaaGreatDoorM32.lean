/- A part of the proof. A part of the proof. A part of the proof. -/
import Derived.Test.YtbdciilkapgfjaaGreatDoorM31
import Derived.Maps.AppendAt
import Derived.Lib.ConvBytes
namespace Go.Proofs.YtbdciilkapgfjaaGreatDoor
open Go.RowKit

theorem dtxt_toList (D : List Nat) : (dtxt D).data.toList = D.map fun d => UInt8.ofNat (48 + d) := by
  rw [dtxt, strOfNums_data, List.map_map]
  refine List.map_congr_left fun d _ => ?_
  show UInt8.ofNat ((48 + d : Nat) : Int).toNat = _
  rw [Int.toNat_natCast]
theorem bytesWorld_below (w : World) (e : TypeId) (s : ByteArray) : Below w.heap.size w (Lib.bytesWorld w e s) :=
  ⟨rfl, rfl, rfl, by rw [Lib.bytesWorld_size]; omega, fun k hk => Lib.bytesWorld_at_old w e s k hk⟩
theorem dtxt_byte {w : World} {D : List Nat} {j : Nat} (hD : ∀ d ∈ D, d < 10) (hj : j < D.length) : (Lib.bytesWorld w 5 (dtxt D)).cell? ⟨w.heap.size, j, none⟩ = some (.int .u8 ((48 + D[j] : Nat) : Int)) := by
  rw [Lib.bytesWorld_cell _ _ _ _ (by rw [dtxt_size]; exact hj), dtxt_toList]
  have := hD _ (List.getElem_mem hj)
  simp [List.getD, hj]
  omega
theorem row_base {w : World} {base lo n : Nat} {e : TypeId} {v : Value} {xs : List Value} (h : w.ownsRow base e 1 v n xs) (hlo : lo ≤ base) : w.ownsRow lo e 1 v n xs := by
  obtain ⟨h0, h1 | ⟨g, c, cur, h1, h2, h3⟩⟩ := h
  · exact ⟨h0, .inl h1⟩
  · exact ⟨h0, .inr ⟨g, c, cur, h1, Nat.le_trans hlo h2, h3⟩⟩

/-- A decimal whose digits grow in a row behind block B; all below B is as it was, but for the decimal. -/
structure Growing (w2 wr : World) (B N : Nat) (a : Option Addr) (c : Nat) (E : List Nat) (dp : Int) : Prop where
  blk : wr.heap[N]? = some (.cells #[.slice a E.length c, .int .i64 dp] 208 (0, 0))
  row : wr.ownsRow B 5 1 (.slice a E.length c) E.length (dcells E)
  rest : ∀ b, b < B → b ≠ N → wr.heap[b]? = w2.heap[b]?
  lt : N < B
  size : B ≤ wr.heap.size
  low : Below N w2 wr
theorem Growing.step {w2 wr w4 : World} {B N c c' d : Nat} {a a' : Option Addr} {E : List Nat} {dp : Int} {o : Obj} (h : Growing w2 wr B N a c E dp)
    (hr : w4.ownsRow B 5 1 (.slice a' (E.length + 1) c') (E.length + 1) (dcells E ++ [.int .u8 (d : Int)])) (hg : (wr.alloc o).grownBy w4 (Value.slice a E.length c).ownBlock) : Growing w2 (w4.setCell ⟨N, 0, none⟩ (.slice a' (E.length + 1) c')) B N a' c' (E ++ [d]) dp := by
  have hlt := h.lt; have hs := h.size
  have hB : ∀ b, b < B → w4.heap[b]? = wr.heap[b]? := fun b hb => by
    have hne : some b ≠ (Value.slice a E.length c).ownBlock := fun e => by have := (h.row.lt b e.symm).1; omega
    rw [hg.block b (by simp; omega) hne]
    exact heap_alloc_old _ _ (by omega)
  have hs4 : wr.heap.size ≤ w4.heap.size := by have := hg.size; simp at this; omega
  have el : (E ++ [d]).length = E.length + 1 := by simp
  refine ⟨?_, ?_, fun b hb hne => ?_, hlt, by simp [World.setCell]; omega, ?_⟩
  · rw [el]
    exact heap_setCell_same w4 ⟨N, 0, none⟩ _ ((hB N hlt).trans h.blk) rfl
  · rw [el, dcells_append]
    refine row_same hr fun g hg' => Below.heap_setCell _ _ _ _ ?_
    have := (hr.lt g hg').1
    show g ≠ N
    omega
  · rw [Below.heap_setCell _ _ _ _ (by simpa using hne)]
    exact (hB b hb).trans (h.rest b hb hne)
  · have h1 : Below N wr w4 := ⟨hg.os, hg.tape, hg.output, hs4, fun k hk => hB k (by omega)⟩
    exact (h.low.trans h1).setCell (p := ⟨N, 0, none⟩) (Nat.le_refl _) _
theorem Growing.dec {w2 wr : World} {B N c lo : Nat} {a : Option Addr} {E : List Nat} {dp : Int} (h : Growing w2 wr B N a c E dp) (hlo : lo ≤ N) : DecAt wr lo wr.heap.size N a c E dp := by
  have hlt := h.lt; have hs := h.size
  refine ⟨h.blk, row_base h.row (by omega), fun g hg => ?_, hlo, by omega, Nat.le_refl _⟩
  rcases h.row.2 with ⟨h1, _⟩ | ⟨g', c', cur, h1, h2, h3, _⟩
  · simp only [Value.slice.injEq] at h1
    obtain ⟨rfl, _⟩ := h1
    cases hg
  · simp only [Value.slice.injEq] at h1
    obtain ⟨rfl, _, _⟩ := h1
    cases hg
    exact ⟨by show g' ≠ N; omega, (Array.getElem?_eq_some_iff.1 h3).1⟩

set_option maxRecDepth 100000 in
set_option maxHeartbeats 1000000 in
/-- newDecimal. -/
theorem newDecimal_any (n : Nat) (hn : n < 18446744073709551616) (w : World) :
    Calls Tryz.prog 124 #[.int .u64 (n : Int)] w fun e w' => ∃ N, e = .returned (.pointer (some ⟨N, 0, none⟩)) ∧ (∃ dp, IsDec w' w.heap.size w'.heap.size N (trimD (digs n)) dp ∧ (trimD (digs n) ≠ [] → dp = ((digs n).length : Int))) ∧ Below w.heap.size w w' := by
  have hlen : (digs n).length ≤ 20 := digs_len (by decide) (by omega)
  have FU := Lib.hid fun w' => FormatUint_any n hn w'
  have HL := Lib.hid hlen
  have HD := Lib.hid (digs_dig n)
  clear hn hlen
  generalize digs n = D at *
  have hin : (Tryz.prog.info? 5).map (fun i => (i.zero, i.size, i.bytes)) = some (some (.int .u8 0), 1, 1) := by kernel_rfl
  obtain ⟨i0, hi, hz0, hz1, hz2⟩ := info_parts hin
  have I0 := Lib.hid hi; have I1 := Lib.hid hz0; have I2 := Lib.hid hz1; have I3 := Lib.hid hz2
  clear hi hz0 hz1 hz2 hin
  go_enter Tryz.func124, Tryz.ntmps124
  go_wp2_with fail
  refine (FU.out _).mono ?_
  rintro e w1 ⟨rfl, hb⟩
  have hlow : Below w.heap.size w w1 := ((Below.refl w.heap.size w).alloc (Nat.le_refl _) _).trans (hb.mono (by simp))
  have hN1 : w1.heap[w.heap.size]? = some (.cells #[.slice none 0 0, .int .i64 0] 208 (0, 0)) := (hb.block w.heap.size (by simp)).trans (heap_alloc_at _ _)
  have hsz := hb.size
  simp only [World.size_alloc] at hsz
  have HB := Lib.hid (hlow.trans ((bytesWorld_below w1 5 (dtxt D)).mono hlow.size))
  have HN := Lib.hid ((Lib.bytesWorld_at_old w1 5 (dtxt D) w.heap.size (by omega)).trans hN1)
  have CELL : Hid (∀ j (_ : j < D.length), (Lib.bytesWorld w1 5 (dtxt D)).cell? ⟨w1.heap.size, j, none⟩ = some (.int .u8 ((48 + D[j] : Nat) : Int))) := Lib.hid (fun j hj => dtxt_byte HD.out hj)
  have hcv := Lib.run_convert_string_bytes (P := Tryz.prog) w1 9 105 5 (dtxt D) Tryz.underlying9 Tryz.underlying105 Tryz.underlying5
  have hw2 := Lib.bytesWorld_size w1 5 (dtxt D)
  rw [dtxt_size] at hcv
  obtain ⟨w2, e2⟩ : ∃ w2, w2 = Lib.bytesWorld w1 5 (dtxt D) := ⟨_, rfl⟩
  rw [← e2] at hcv HB HN CELL hw2
  clear e2 hb hlow hN1
  generalize grownCap w1 D.length 0 5 = cp at hcv
  go_wp2_with fail
  go_loopw [10] (fun i wr => ∃ (j : Nat) (a : Option Addr) (c : Nat), i = .int .i64 (j : Int) ∧ j ≤ D.length ∧ Growing w2 wr w2.heap.size w.heap.size a c (D.take j) 0) (fun i _ => D.length - (intOf i).toNat)
  case atStart => exact ⟨0, none, 0, rfl, Nat.zero_le _, HN.out, World.ownsRow_nil _ _ _ _, fun _ _ _ => rfl, by omega, Nat.le_refl _, Below.refl _ _⟩
  case round =>
    obtain ⟨j, a, c, rfl, hj, hg⟩ := hrel
    have HG := Lib.hid hg; have HJ := Lib.hid hj
    have hlj : (D.take j).length = j := by simp; omega
    have LJ := Lib.hid hlj
    by_cases hlt : j < D.length
    · have cj := CELL.out j hlt
      obtain ⟨d, hd⟩ : ∃ d, D[j] = d := ⟨_, rfl⟩
      rw [hd] at cj
      have hd9 : d < 10 := by rw [← hd]; exact HD.out _ (List.getElem_mem hlt)
      have hsub : IntKind.u8.wrap (48 + (d : Int) - 48) = (d : Int) := by simp [IntKind.wrap, IntKind.bits, IntKind.signed]; omega
      have cw : wr.cell? ⟨w1.heap.size, j, none⟩ = some (.int .u8 ((48 + d : Nat) : Int)) := (World.cell?_of_block (a := ⟨w1.heap.size, j, none⟩) (hg.rest w1.heap.size (by omega) (by omega))).trans cj
      have c0 : wr.cell? ⟨w.heap.size, 0, none⟩ = some (.slice a j c) := by rw [Lib.cell_of_heap hg.blk, hlj]; rfl
      have hlt' : (j : Int) < (D.length : Int) := by omega
      have hjl : j < 20 := by have := HL.out; omega
      have DJ := Lib.hid hd
      have OWN : Hid ((wr.alloc (.cells #[.int .u8 (d : Int)] 5)).ownsRow w2.heap.size 5 1 (.slice a j c) j (dcells (D.take j))) := Lib.hid (by have h := hg.row.alloc (.cells #[.int .u8 (d : Int)] 5); rw [hlj] at h; exact h)
      have SRC : Hid (∀ i u, [Value.int .u8 (d : Int)][i]? = some u → (wr.alloc (.cells #[.int .u8 (d : Int)] 5)).cell? ((⟨wr.heap.size, 0, none⟩ : Addr).add i) = some u) := Lib.hid (World.news_of_block (heap_alloc_at _ _))
      have H1 : Hid (∀ u ∈ [Value.int .u8 (d : Int)], u.oneCell' = true) := Lib.hid (by intro u hu; simp at hu; subst hu; rfl)
      have hs2 := hg.size
      clear hg cj hd hlj hj
      go_wp2_with (at_builtin; go_loud (refine wpList_append_own_at _ rfl (.tmp 15) (.tmp 18) 105 rfl w2.heap.size 5 i0 (.int .u8 0) 1 1 Tryz.underlying105 I0.out I1.out I2.out I3.out rfl Nat.one_pos (.slice a j c) j (dcells (D.take j)) rfl OWN.out ⟨wr.heap.size, 0, none⟩ 1 1 [.int .u8 (d : Int)] rfl rfl SRC.out H1.out ?c3 ?c4 ?c5 ?_))
      case c3 => unfold maxLen; omega
      case c4 => omega
      case c5 => simp; omega
      intro v' w3 hown' hgrow _ _
      obtain ⟨a', c', rfl⟩ : ∃ a' c', v' = .slice a' (j + 1) c' := by
        rcases hown'.2 with ⟨_, h⟩ | ⟨g, cap, cur, hv, _⟩
        · exact absurd h (Nat.succ_ne_zero j)
        · exact ⟨_, _, hv⟩
      have hst := HG.out.step (d := d) (by rw [LJ.out, hw2]; exact hown') (by rw [LJ.out]; exact hgrow)
      rw [LJ.out] at hst
      have eD : D.take j ++ [d] = D.take (j + 1) := by rw [List.take_add_one, List.getElem?_eq_getElem hlt, DJ.out]; rfl
      rw [eD] at hst
      have b0 : w3.heap[w.heap.size]? = some (.cells #[.slice a j c, .int .i64 0] 208 (0, 0)) := by
        have h := hgrow.block w.heap.size (by simp; omega) (fun e => by have := (OWN.out.lt _ e.symm).1; omega)
        rw [h, heap_alloc_old _ _ (by omega), HG.out.blk, LJ.out]
      have d0 : w3.cell? ⟨w.heap.size, 0, none⟩ = some (.slice a j c) := by rw [Lib.cell_of_heap b0]; rfl
      have f0 : w3.frozen? ⟨w.heap.size, 0, none⟩ = false := Lib.frozen_of_heap b0 0
      have ST := Lib.hid hst
      clear hst eD b0 hown' hgrow
      go_wp2_with fail
      go_roundw
      case rel => exact ⟨j + 1, a', c', by go_num, by omega, ST.out⟩
      case measure => simp [intOf]; omega
    · obtain rfl : j = D.length := by omega
      have hlt' : decide ((D.length : Int) < (D.length : Int)) = false := decide_eq_false (by omega)
      have c0 : wr.cell? ⟨w.heap.size, 0, none⟩ = some (.slice a D.length c) := by rw [Lib.cell_of_heap hg.blk, hlj]; rfl
      have c1 : wr.cell? ⟨w.heap.size, 1, none⟩ = some (.int .i64 0) := by rw [Lib.cell_of_heap hg.blk]; rfl
      have f1 : wr.frozen? ⟨w.heap.size, 1, none⟩ = false := Lib.frozen_of_heap hg.blk 1
      have hdec := (hg.dec (Nat.le_refl w.heap.size)).point (D.length : Int)
      rw [List.take_length] at hdec
      have hlow : Below w.heap.size w (wr.setCell ⟨w.heap.size, 1, none⟩ (.int .i64 (D.length : Int))) := (HB.out.trans hg.low).setCell (p := ⟨w.heap.size, 1, none⟩) (Nat.le_refl _) _
      have TR := Lib.hid (trim_any hdec (by have := HL.out; omega))
      have LOW := Lib.hid hlow
      clear hg hdec hlow hlj hj
      go_wp2_with fail
      refine TR.out.mono ?_
      rintro e w3 ⟨rfl, ⟨dp', hd, hdp, hdp2⟩, hb⟩
      have HD3 := Lib.hid hd; have HDP := Lib.hid hdp2; have LOW3 := Lib.hid (LOW.out.trans hb)
      have hs3 := hb.size
      clear hd hdp hdp2 hb
      go_wp2_with fail
      go_ret
      exact ⟨_, rfl, ⟨dp', ⟨_, _, HD3.out.mono (by simpa [World.setCell] using hs3) (Nat.le_refl _)⟩, HDP.out⟩, LOW3.out⟩
end Go.Proofs.YtbdciilkapgfjaaGreatDoor

namespace Go.Proofs.YtbdciilkapgfjaaGreatDoor
open Go.RowKit

/-- What half leaves. -/
structure HalfOK (D : List Nat) (dp : Int) (k : Nat) (E : List Nat) (ep : Int) : Prop where
  norm : Norm E
  ne : E ≠ []
  len : E.length ≤ D.length + k + 5
  lo : dp - (D.length + k + 5 : Nat) ≤ ep
  hi : ep ≤ dp
  eq : ∀ K : Nat, ((D.length + k + 5 : Nat) : Int) ≤ K + dp → (E.length : Int) ≤ K + ep ∧ scaled K E ep * 2 ^ k = scaled K D dp

theorem trimD_ne {out : List Nat} (h : out ≠ []) (hf : ∀ d, out.head? = some d → d ≠ 0) : trimD out ≠ [] := by
  intro e
  obtain ⟨k, hk, _⟩ := trimD_spec out
  rw [e, List.nil_append] at hk
  cases k with
  | zero => exact h hk
  | succ k => exact hf 0 (by rw [hk]; rfl) rfl

theorem Halving.ok {D out : List Nat} {k i0 i : Nat} {dp : Int} (hg : Halving D k i0 i out 0) (hi : D.length ≤ i) (hb : i ≤ D.length + k + 4) (h0 : 1 ≤ i0) : HalfOK D dp k (trimD out) (dp - (i0 - 1)) := by
  have hne : out ≠ [] := fun e => by have := hg.ge e; have := Nat.pow_pos (a := 2) (n := k) (by decide); omega
  have hl := (trimD_val out).2
  have hlen := hg.len
  refine ⟨trimD_norm hg.dig hg.fst, trimD_ne hne hg.fst, by omega, by omega, by omega, fun K hK => ⟨by omega, ?_⟩⟩
  exact (hg.done hi (by omega)).1

theorem Gathering.bound {D : List Nat} {k i n : Nat} (h : Gathering D k i n) (hD : Norm D) (hne : D ≠ []) : i ≤ D.length + k + 4 := by
  rcases Nat.le_total i D.length with hi | hi
  · omega
  · have e := h.eq
    rw [pfx_all hi] at e
    have h1 : 1 * 10 ^ (i - D.length) ≤ dval D * 10 ^ (i - D.length) := Nat.mul_le_mul_right _ (hD.pos hne)
    have h2 : 2 ^ (i - D.length) ≤ 10 ^ (i - D.length) := Nat.pow_le_pow_left (by decide) _
    have h3 : n < 2 ^ (k + 4) := by rw [Nat.pow_add]; have := h.lt; omega
    have := (Nat.pow_lt_pow_iff_right (a := 2) (by decide)).1 (show 2 ^ (i - D.length) < 2 ^ (k + 4) by omega)
    omega

/-- What an append to a row behind B leaves as it was. -/
theorem grow_below {w w' : World} {B n : Nat} {e : TypeId} {v : Value} {xs : List Value} {o : Obj} (h : w.ownsRow B e 1 v n xs) (hg : (w.alloc o).grownBy w' v.ownBlock) (hB : B ≤ w.heap.size) : Below B w w' :=
  ⟨hg.os, hg.tape, hg.output, by have := hg.size; simp at this; omega, fun k hk => by
    rw [hg.block k (by simp; omega) (fun e => by have := (h.lt k e.symm).1; omega)]
    exact heap_alloc_old _ _ (by omega)⟩
theorem slice_form {w : World} {B n : Nat} {e : TypeId} {v : Value} {xs : List Value} (h : w.ownsRow B e 1 v (n + 1) xs) : ∃ a c, v = .slice a (n + 1) c := by
  rcases h.2 with ⟨_, h⟩ | ⟨g, cap, cur, hv, _⟩
  · exact absurd h (Nat.succ_ne_zero _)
  · exact ⟨_, _, hv⟩
theorem and_low (m k : Nat) (hm : m < 18446744073709551616) (hk : k ≤ 59) : bits .and .u64 (m : Int) (IntKind.u64.wrap (IntKind.u64.wrap (2 ^ k) - 1)) = ((m % 2 ^ k : Nat) : Int) := by
  have h59 : 2 ^ k ≤ 576460752303423488 := Nat.pow_le_pow_right (n := 2) (by decide) hk
  have hp : 0 < 2 ^ k := Nat.pow_pos (by decide)
  have e0 : ((2 : Int) ^ k) = ((2 ^ k : Nat) : Int) := by simp
  have e1 : IntKind.u64.wrap (2 ^ k) = ((2 ^ k : Nat) : Int) := by rw [e0, IntKind.wrap_u64]; omega
  have e2 : IntKind.u64.wrap (((2 ^ k : Nat) : Int) - 1) = ((2 ^ k - 1 : Nat) : Int) := by rw [IntKind.wrap_u64]; omega
  rw [e1, e2, u64_and_nat m (2 ^ k - 1) hm (by omega), Nat.and_two_pow_sub_one_eq_mod]

set_option maxRecDepth 100000 in
set_option maxHeartbeats 2000000 in
/-- half. -/
theorem half_any {w : World} {lo hi N cap : Nat} {a : Option Addr} {D : List Nat} {dp : Int} (h : DecAt w lo hi N a cap D dp) (k : Nat) (hk : k ≤ 59) (hD : Norm D) (hne : D ≠ []) (hl : D.length < 100) (h1 : -1000 ≤ dp) (h2 : dp ≤ 1000) :
    Calls Tryz.prog 164 #[.pointer (some ⟨N, 0, none⟩), .int .i64 (k : Int)] w fun e w' => e = .returned (.tuple #[]) ∧ (∃ E ep, IsDec w' lo w'.heap.size N E ep ∧ HalfOK D dp k E ep) ∧ Below lo w w' := by
  obtain ⟨g, rfl, hc, _⟩ := h.arr hne
  have c0 := h.c0; have c1 := h.c1
  have H := Lib.hid h; have HC := Lib.hid hc; have HD := Lib.hid hD; have HNE := Lib.hid hne
  have LO := h.low
  have hin : (Tryz.prog.info? 5).map (fun i => (i.zero, i.size, i.bytes)) = some (some (.int .u8 0), 1, 1) := by kernel_rfl
  obtain ⟨i0, hi, hz0, hz1, hz2⟩ := info_parts hin
  have J0 := Lib.hid hi; have J1 := Lib.hid hz0; have J2 := Lib.hid hz1; have J3 := Lib.hid hz2
  clear hi hz0 hz1 hz2 hin
  clear h hc
  go_enter Tryz.func164, Tryz.ntmps164
  go_wp2_with fail
  go_loopw [4, 5] (fun un ui wr => ∃ (n i : Nat), un = .int .u64 (n : Int) ∧ ui = .int .i64 (i : Int) ∧ wr = w ∧ Gathering D k i n) (fun un _ _ => 10 * 2 ^ k - (intOf un).toNat)
  case atStart => exact ⟨0, 0, rfl, rfl, rfl, Gathering.zero D k⟩
  case round =>
    obtain ⟨n, i, rfl, rfl, rfl, hG⟩ := hrel
    have hlt := hG.lt
    have hib := hG.bound hD hne
    have h59 : 2 ^ k ≤ 576460752303423488 := by have := Nat.pow_le_pow_right (n := 2) (by decide) hk; exact this
    have q : ((n : Int) / 2 ^ k) = ((n / 2 ^ k : Nat) : Int) := by simp
    by_cases hn : n < 2 ^ k
    · have hz : ((n : Int) / 2 ^ k == 0) = true := by rw [q, Nat.div_eq_of_lt hn]; rfl
      have hst := hG.step hD.dig hn
      have hgr := hG.grow hD.fst hne
      have hnb : n < 576460752303423488 := by omega
      have HST := Lib.hid hst; have HGR := Lib.hid hgr; have HN := Lib.hid hn
      have hil : i < 200 := by omega
      by_cases hlt2 : i < D.length
      · have cj := HC.out i hlt2
        obtain ⟨d, hd⟩ : ∃ d, D[i] = d := ⟨_, rfl⟩
        rw [hd] at cj
        have hd9 : d < 10 := by rw [← hd]; exact hD.dig _ (List.getElem_mem hlt2)
        have GD : Hid (D.getD i 0 = d) := Lib.hid (by simp [hlt2, hd])
        have e1 : decide ((i : Int) < (D.length : Int)) = true := decide_eq_true (by omega)
        have e2 : decide ((D.length : Int) ≤ (i : Int)) = false := decide_eq_false (by omega)
        have hlt' : (i : Int) < (D.length : Int) := by omega
        clear hG hD hne hst hgr hn hd hlt h59 q hib
        go_wp2_with fail
        go_roundw
        case rel => exact ⟨n * 10 + d, i + 1, by go_num, by go_num, trivial, by rw [← GD.out]; exact HST.out⟩
        case measure =>
          have g1 := HGR.out; have g2 := HN.out
          rw [GD.out] at g1
          have e : (intOf (Value.int IntKind.u64 ((n : Int) * 10 + (d : Int)))).toNat = n * 10 + d := by show ((n : Int) * 10 + (d : Int)).toNat = _; omega
          have e' : (intOf (Value.int IntKind.u64 (n : Int))).toNat = n := rfl
          rw [e, e']
          omega
      · have hn0 : ((n : Int) == 0) = false := by
          have e := hG.eq
          rw [pfx_all (by omega)] at e
          have h3 : 0 < dval D * 10 ^ (i - D.length) := Nat.mul_pos (hD.pos hne) (Nat.pow_pos (by decide))
          simp; omega
        have GD : Hid (D.getD i 0 = 0) := Lib.hid (by simp [List.getD, List.getElem?_eq_none (Nat.le_of_not_lt hlt2)])
        have e1 : decide ((i : Int) < (D.length : Int)) = false := decide_eq_false (by omega)
        have hle : D.length ≤ i := by omega
        clear hG hD hne hst hgr hn hlt h59 q hib
        go_wp2_with fail
        go_roundw
        case rel => exact ⟨n * 10, i + 1, by go_num, by go_num, trivial, by have := HST.out; rw [GD.out] at this; exact this⟩
        case measure =>
          have g1 := HGR.out; have g2 := HN.out
          rw [GD.out] at g1
          have e : (intOf (Value.int IntKind.u64 ((n : Int) * 10))).toNat = n * 10 := by show ((n : Int) * 10).toNat = _; omega
          have e' : (intOf (Value.int IntKind.u64 (n : Int))).toNat = n := rfl
          rw [e, e']
          omega
    · have hz : ((n : Int) / 2 ^ k == 0) = false := by
        have h3 : 0 < n / 2 ^ k := Nat.div_pos (by omega) (by omega)
        rw [q]
        simp only [beq_eq_false_iff_ne, ne_eq]
        omega
      have hH := hG.halving (Nat.le_of_not_lt hn)
      have hi1 : 1 ≤ i := by
        rcases Nat.eq_zero_or_pos i with h0 | h0
        · subst h0
          have e := hG.eq
          rw [pfx_zero] at e
          omega
        · exact h0
      have f1 := H.out.f1
      obtain ⟨w2, hw2⟩ : ∃ w2, w2 = wr.setCell ⟨N, 1, none⟩ (.int .i64 (dp - ((i : Int) - 1))) := ⟨_, rfl⟩
      have HW := Lib.hid ((H.out).point (dp - ((i : Int) - 1)))
      have HB : Hid (Below lo wr w2) := Lib.hid (by rw [hw2]; exact (Below.refl _ _).setCell (p := ⟨N, 1, none⟩) LO _)
      rw [← hw2] at HW
      have HH := Lib.hid hH; have HI1 := Lib.hid hi1
      have hil : i < 200 := by omega
      have HIB := Lib.hid hib; have H59 := Lib.hid h59
      clear hG hD hne hH hn q hlt h59 hib hi1
      go_wp2_with fail
      rw [← hw2]
      clear hw2
      go_loopw [4, 5, 6] (fun un ui uo wr2 => ∃ (m p : Nat) (out : List Nat) (a' : Option Addr) (c' : Nat), un = .int .u64 (m : Int) ∧ ui = .int .i64 (p : Int) ∧ uo = .slice a' out.length c' ∧ Halving D k i p out m ∧ p ≤ D.length + k + 4 ∧ wr2.ownsRow w2.heap.size 5 1 (.slice a' out.length c') out.length (dcells out) ∧ Below w2.heap.size w2 wr2) (fun _ ui _ _ => D.length + k + 5 - (intOf ui).toNat)
      case atStart => exact ⟨n, i, [], none, 0, rfl, rfl, rfl, HH.out, HIB.out, World.ownsRow_nil _ _ _ _, Below.refl _ _⟩
      case round =>
        obtain ⟨m, p, out, a', c', rfl, rfl, rfl, hH, hp, hrow, hb⟩ := hrel
        have hd2 := HW.out.keep (hb.mono HW.out.size)
        obtain ⟨_, e, hc2, _⟩ := hd2.arr HNE.out
        cases e
        have c0 := hd2.c0
        have f0 := hd2.f0
        have HB2 := Lib.hid hb; have HROW := Lib.hid hrow; have HD2 := Lib.hid hd2; have HHH := Lib.hid hH
        by_cases hgo : m ≠ 0 ∨ p < D.length
        · have hbd := hH.bound hgo
          have hst := hH.step HD.out.dig
          have hlt := hH.lt
          have h59 := H59.out
          obtain ⟨q0, hq0⟩ : ∃ q0, q0 = m / 2 ^ k := ⟨_, rfl⟩
          obtain ⟨r0, hr0⟩ : ∃ r0, r0 = m % 2 ^ k := ⟨_, rfl⟩
          have hq : (m : Int) / 2 ^ k = (q0 : Int) := by rw [hq0]; simp
          have hq9 : q0 < 10 := by rw [hq0]; exact (Nat.div_lt_iff_lt_mul (Nat.pow_pos (by decide))).2 hlt
          have hol : out.length < 200 := by have := hH.len; omega
          have hpl : p < 200 := by omega
          have HBD := Lib.hid hbd; have HST := Lib.hid hst
          have OWN : Hid ((wr.alloc (.cells #[.int .u8 (q0 : Int)] 5)).ownsRow w2.heap.size 5 1 (.slice a' out.length c') out.length (dcells out)) := Lib.hid (hrow.alloc _)
          have SRC : Hid (∀ i u, [Value.int .u8 (q0 : Int)][i]? = some u → (wr.alloc (.cells #[.int .u8 (q0 : Int)] 5)).cell? ((⟨wr.heap.size, 0, none⟩ : Addr).add i) = some u) := Lib.hid (World.news_of_block (heap_alloc_at _ _))
          have H1 : Hid (∀ u ∈ [Value.int .u8 (q0 : Int)], u.oneCell' = true) := Lib.hid (by intro u hu; simp at hu; subst hu; rfl)
          have hs2 := hb.size
          have hand := and_low m k (by omega) hk
          rw [← hr0] at hand
          have hr59 : r0 < 576460752303423488 := by rw [hr0]; have := Nat.mod_lt m (Nat.pow_pos (n := k) (show 0 < 2 by decide)); omega
          have HHI := HW.out.size
          rw [← hr0, ← hq0] at hst
          have HST := Lib.hid hst
          have HPP := Lib.hid hp
          clear hb hrow hd2 hH hp hbd hst hlt h59 hq0 hr0
          by_cases hlt2 : p < D.length
          · have e1 : decide ((p : Int) < (D.length : Int)) = true := decide_eq_true (by omega)
            clear hgo
            go_wp2_with (at_builtin; go_loud (refine wpList_append_own_at _ rfl (.tmp 68) (.tmp 73) 105 rfl w2.heap.size 5 i0 (.int .u8 0) 1 1 Tryz.underlying105 J0.out J1.out J2.out J3.out rfl Nat.one_pos (.slice a' out.length c') out.length (dcells out) rfl OWN.out ⟨wr.heap.size, 0, none⟩ 1 1 [.int .u8 (q0 : Int)] rfl rfl SRC.out H1.out ?c3 ?c4 ?c5 ?_))
            case c3 => unfold maxLen; omega
            case c4 => omega
            case c5 => simp; omega
            intro v' w3 hown' hgrow _ _
            obtain ⟨a3, c3, rfl⟩ := slice_form hown'
            have hb3 := grow_below HROW.out hgrow hs2
            have hd3 := HD2.out.keep (hb3.mono HHI)
            obtain ⟨_, e, hc3, _⟩ := hd3.arr HNE.out
            cases e
            have c0 := hd3.c0
            have cj := hc3 p hlt2
            obtain ⟨d, hd⟩ : ∃ d, D[p] = d := ⟨_, rfl⟩
            rw [hd] at cj
            have hd9 : d < 10 := by rw [← hd]; exact HD.out.dig _ (List.getElem_mem hlt2)
            have GD : Hid (D.getD p 0 = d) := Lib.hid (by simp [hlt2, hd])
            have HB3 := Lib.hid (HB2.out.trans hb3)
            have HOWN := Lib.hid hown'
            have hlt' : (p : Int) < (D.length : Int) := by omega
            clear hown' hgrow hb3 hd3 hd hc2 hc3
            go_wp2_with fail
            go_roundw
            case rel => exact ⟨r0 * 10 + d, p + 1, out ++ [q0], a3, c3, by go_num, by go_num, by simp, by rw [← GD.out]; exact HST.out, by have := HBD.out; omega, by rw [List.length_append, List.length_singleton, dcells_append]; exact HOWN.out, HB3.out⟩
            case measure => simp [intOf]; have := HBD.out; omega
          · have e1 : decide ((p : Int) < (D.length : Int)) = false := decide_eq_false (by omega)
            have hm0 : (0 : Int) < (m : Int) := by rcases hgo with h | h <;> omega
            clear hgo
            go_wp2_with (at_builtin; go_loud (refine wpList_append_own_at _ rfl (.tmp 68) (.tmp 73) 105 rfl w2.heap.size 5 i0 (.int .u8 0) 1 1 Tryz.underlying105 J0.out J1.out J2.out J3.out rfl Nat.one_pos (.slice a' out.length c') out.length (dcells out) rfl OWN.out ⟨wr.heap.size, 0, none⟩ 1 1 [.int .u8 (q0 : Int)] rfl rfl SRC.out H1.out ?c3 ?c4 ?c5 ?_))
            case c3 => unfold maxLen; omega
            case c4 => omega
            case c5 => simp; omega
            intro v' w3 hown' hgrow _ _
            obtain ⟨a3, c3, rfl⟩ := slice_form hown'
            have hb3 := grow_below HROW.out hgrow hs2
            have hd3 := HD2.out.keep (hb3.mono HHI)
            have c0 := hd3.c0
            have GD : Hid (D.getD p 0 = 0) := Lib.hid (by simp [List.getD, List.getElem?_eq_none (Nat.le_of_not_lt hlt2)])
            have HB3 := Lib.hid (HB2.out.trans hb3)
            have HOWN := Lib.hid hown'
            clear hown' hgrow hb3 hd3 hc2
            go_wp2_with fail
            go_roundw
            case rel => exact ⟨r0 * 10, p + 1, out ++ [q0], a3, c3, by go_num, by go_num, by simp, by have := HST.out; rw [GD.out] at this; exact this, by have := HBD.out; omega, by rw [List.length_append, List.length_singleton, dcells_append]; exact HOWN.out, HB3.out⟩
            case measure => simp [intOf]; have := HBD.out; omega
        · obtain rfl : m = 0 := Decidable.byContradiction fun h => hgo (Or.inl h)
          have hple : D.length ≤ p := Nat.le_of_not_lt fun h => hgo (Or.inr h)
          have e1 : decide ((p : Int) < (D.length : Int)) = false := decide_eq_false (by omega)
          have hok := hH.ok (dp := dp) hple hp HI1.out
          have hdig := (HD2.out.mono (Nat.le_trans HW.out.size hb.size) (Nat.le_refl _)).digits (row_base hrow (Nat.le_trans (Nat.le_trans LO (Nat.le_of_lt HW.out.high)) HW.out.size)) (fun g hg => by
            have h := hrow.lt g.block (by rw [hg]; rfl)
            have h2 := HW.out.high; have h3 := HW.out.size
            exact ⟨by omega, h.2⟩) (Nat.le_refl _) (Nat.le_refl _)
          have hlow := (HB.out.trans (hb.mono (Nat.le_trans (Nat.le_trans LO (Nat.le_of_lt HW.out.high)) HW.out.size))).setCell (p := ⟨N, 0, none⟩) LO (.slice a' out.length c')
          have TR := Lib.hid (trim_any hdig (by have := hH.len; omega))
          have OK := Lib.hid hok; have LOW := Lib.hid hlow
          clear hb hrow hd2 hH hp hc2 hok hdig hlow hgo
          go_wp2_with fail
          refine TR.out.mono ?_
          rintro e w3 ⟨rfl, ⟨dp', hd, _, hdp⟩, hb⟩
          have e := hdp OK.out.ne
          subst e
          have HD3 := Lib.hid hd; have LOW3 := Lib.hid (LOW.out.trans hb)
          have hs3 := hb.size
          clear hd hdp hb
          go_wp2_with fail
          go_end0
          exact ⟨rfl, ⟨_, _, ⟨_, _, HD3.out.mono (by simpa [World.setCell] using hs3) (Nat.le_refl _)⟩, OK.out⟩, LOW3.out⟩
end Go.Proofs.YtbdciilkapgfjaaGreatDoor

namespace Go.Proofs.YtbdciilkapgfjaaGreatDoor
open Go.RowKit

set_option maxRecDepth 100000 in
/-- shift to the right, at one go. -/
theorem shift_any {w : World} {lo hi N cap : Nat} {a : Option Addr} {D : List Nat} {dp : Int} (h : DecAt w lo hi N a cap D dp) (k : Nat) (hk : k ≤ 59) (hk1 : 1 ≤ k) (hD : Norm D) (hne : D ≠ []) (hl : D.length < 100) (h1 : -1000 ≤ dp) (h2 : dp ≤ 1000) :
    Calls Tryz.prog 125 #[.pointer (some ⟨N, 0, none⟩), .int .i64 (-(k : Int))] w fun e w' => e = .returned (.tuple #[]) ∧ (∃ E ep, IsDec w' lo w'.heap.size N E ep ∧ HalfOK D dp k E ep) ∧ Below lo w w' := by
  have HF := Lib.hid (half_any h k hk hD hne hl h1 h2)
  clear h hD hne hl h1 h2
  obtain ⟨z, hz⟩ : ∃ z : Int, z = -(k : Int) := ⟨_, rfl⟩
  rw [← hz]
  have hz1 : -59 ≤ z := by omega
  have hz2 : z < 0 := by omega
  have hz3 : -z = (k : Int) := by omega
  have d1 : decide ((59 : Int) < z) = false := decide_eq_false (by omega)
  have d2 : decide (z < (-59 : Int)) = false := decide_eq_false (by omega)
  have d3 : decide ((0 : Int) < z) = false := decide_eq_false (by omega)
  clear hz
  go_enter Tryz.func125, Tryz.ntmps125
  go_wp2_with fail
  go_loopw [1] (fun u wr => u = .int .i64 z ∧ wr = w) (fun _ _ => 0)
  case atStart => exact ⟨rfl, rfl⟩
  case round =>
    obtain ⟨rfl, rfl⟩ := hrel
    go_wp2_with fail
    go_loopw [1] (fun u wr2 => u = .int .i64 z ∧ wr2 = wr) (fun _ _ => 0)
    case atStart => exact ⟨rfl, rfl⟩
    case round =>
      obtain ⟨rfl, rfl⟩ := hrel
      go_wp2_with fail
      refine HF.out.mono ?_
      rintro e w3 ⟨rfl, hd, hb⟩
      have HD := Lib.hid hd; have HB := Lib.hid hb
      clear hd hb
      go_wp2_with fail
      go_end0
      exact ⟨rfl, HD.out, HB.out⟩
end Go.Proofs.YtbdciilkapgfjaaGreatDoor
