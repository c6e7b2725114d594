/- A part of the proof. -/
import Derived.Test.YtbdciilkapgfjaaGreatDoorShelfD
import Derived.Test.YtbdciilkapgfjaaGreatDoorZRow
import Derived.RangeFuncCalls
import Derived.Lib.AppendStr
import Derived.Laws.Externs
namespace Go.Proofs.YtbdciilkapgfjaaGreatDoor
open Go.RowKit Go.Shelf

theorem extraS : Builder.Extra Tryz.prog Tryz.stringB_ren :=
  { sizeBuilder := by kernel_rfl, liesBuilder := by kernel_rfl, t5 := Tryz.underlying5, a5 := Tryz.isAgg5, z5 := Tryz.sizeOf5, v5 := Tryz.zeroValue5, infoByte := by kernel_rfl, cellsByte := by kernel_rfl, sizeByte := by kernel_rfl, neB5 := by decide }

set_option maxRecDepth 100000 in
/-- copyCheck at a builder that has been used: nothing turns. -/
theorem copyCheck_used (b : Nat) (w : World) (h0 : w.cell? ⟨b, 0, none⟩ = some (.pointer (some ⟨b, 0, none⟩))) :
    Calls Tryz.prog 232 #[.pointer (some ⟨b, 0, none⟩)] w fun e w' => e = .returned (.tuple #[]) ∧ w' = w := by
  obtain ⟨j, hj, _⟩ := Option.map_eq_some_iff.1 extraS.sizeBuilder
  go_enter Tryz.func232, Tryz.ntmps232
  go_wp2
  rw [Lib.run_neq_ptr_same w _ Tryz.underlying104 hj]
  go_wp2
  go_end0
  exact ⟨rfl, rfl⟩

set_option maxRecDepth 100000 in
/-- copyCheck at a fresh builder: it stores its own address. -/
theorem copyCheck_fresh (b : Nat) (w : World) (h0 : w.cell? ⟨b, 0, none⟩ = some (.pointer none)) (hsh : w.shape? b = some (107, 2)) (hfz : w.frozen? ⟨b, 0, none⟩ = false) :
    Calls Tryz.prog 232 #[.pointer (some ⟨b, 0, none⟩)] w fun e w' => e = .returned (.tuple #[]) ∧ w' = w.setCell ⟨b, 0, none⟩ (.pointer (some ⟨b, 0, none⟩)) := by
  obtain ⟨j, hj, hjs⟩ := Option.map_eq_some_iff.1 extraS.sizeBuilder
  have hj' : Tryz.prog.info? 107 = some j := hj
  go_enter Tryz.func232, Tryz.ntmps232
  go_wp2
  rw [Lib.run_to_unsafe w ⟨b, 0, none⟩ Tryz.underlying104 Tryz.underlying177 hj' (by rw [hjs]; decide) hsh (Nat.zero_lt_succ 1)]
  simp only [Result.andThen]
  rw [Oper.upon_value]
  go_wp2
  rw [run_callFunc_extern Tryz.func233 (by kernel_rfl) (by kernel_rfl) (by kernel_rfl) (e := Extern.AbiNoEscape.same) (by kernel_rfl)]
  rw [Lib.run_noEscape]
  simp only [Result.andThen]
  rw [Oper.upon_value]
  go_wp2
  rw [Lib.run_from_unsafe w ⟨b, 0, none⟩ Tryz.underlying177 Tryz.underlying104 hj' hsh extraS.liesBuilder]
  simp only [Result.andThen]
  rw [Oper.upon_value]
  go_wp2
  go_end0
  exact ⟨rfl, rfl⟩

/-- copyCheck: behind it the builder is used. -/
theorem copyCheck_any (B b : Nat) (bs : List Value) (w : World) (h : Lib.IsBuilder 107 5 B b bs w) :
    Calls Tryz.prog 232 #[.pointer (some ⟨b, 0, none⟩)] w fun e w' => e = .returned (.tuple #[]) ∧ (Lib.BuilderAt 107 5 B b (.pointer (some ⟨b, 0, none⟩)) bs w' ∧ Below B w w' ∧ ∀ k, k ≠ b → w'.heap[k]? = w.heap[k]?) := by
  rcases h with h | h
  · refine (copyCheck_fresh b w h.cell0 h.shape h.frozen0).mono ?_
    rintro e w' ⟨rfl, rfl⟩
    exact ⟨rfl, h.used _, (Below.refl B w).setCell (p := ⟨b, 0, none⟩) h.1 _, fun k hk => Below.heap_setCell _ _ _ _ hk⟩
  · refine (copyCheck_used b w h.cell0).mono ?_
    rintro e w' ⟨rfl, rfl⟩
    exact ⟨rfl, h, Below.refl B _, fun k _ => rfl⟩

set_option maxHeartbeats 2000000 in
set_option maxRecDepth 100000 in
/-- (*strings.Builder).Write of bytes that lie there. -/
theorem write_any (B b : Nat) (bs : List Value) (ad : Addr) (m c : Nat) (ys : List Value) (w : World) (h : Lib.IsBuilder 107 5 B b bs w) (hl : ys.length = m) (hys : ∀ j u, ys[j]? = some u → w.cell? (ad.add j) = some u) (h1 : ∀ u ∈ ys, u.oneCell' = true) (had : ad.block ≠ b) (hlen : bs.length + m ≤ 140737488355328) (hBw : B ≤ w.heap.size) :
    Calls Tryz.prog 229 #[.pointer (some ⟨b, 0, none⟩), .slice (some ad) m c] w fun e w' => e = .returned (.tuple #[.int .i64 m, .nilIface]) ∧ (Lib.BuilderAt 107 5 B b (.pointer (some ⟨b, 0, none⟩)) (bs ++ ys) w' ∧ Below B w w') := by
  have hin : (Tryz.prog.info? 5).map (fun i => (i.zero, i.size, i.bytes)) = some (some (.int .u8 0), 1, 1) := by kernel_rfl
  obtain ⟨i0, hi, hz0, hz1, hz2⟩ := info_parts hin
  have HYS := Lib.hid hys; have HL := Lib.hid hl; have H1 := Lib.hid h1
  clear hys hl h1
  go_enter Tryz.func229, Tryz.ntmps229
  go_wp2_with (go_at_call 232; refine (copyCheck_any B b bs _ h).mono ?_)
  rintro e w1 ⟨rfl, h1, hb1, hoth⟩
  obtain ⟨hB, v, hbk, hown, hne⟩ := h1
  have c0 : w1.cell? ⟨b, 0, none⟩ = some (.pointer (some ⟨b, 0, none⟩)) := by rw [Lib.cell_of_heap hbk]; rfl
  have c1 : w1.cell? ⟨b, 1, none⟩ = some v := by rw [Lib.cell_of_heap hbk]; rfl
  have HB1 := Lib.hid hb1; have HBK := Lib.hid hbk; have OWN := Lib.hid hown
  have SRC : Hid (∀ j u, ys[j]? = some u → w1.cell? (ad.add j) = some u) := Lib.hid (fun j u hj => (World.cell?_of_block (a := ad.add j) (hoth _ (by unfold Addr.add; split <;> exact had))).trans (HYS.out j u hj))
  have hs1 := hb1.size
  clear hb1 hbk hown hoth
  have L1 := Lib.hid (show ys.length = m * 1 by rw [HL.out]; omega)
  go_wp2_with (at_builtin; refine wpList_append_own_at _ rfl _ _ 105 rfl B 5 i0 (.int .u8 0) 1 1 Tryz.underlying105 hi hz0 hz1 hz2 rfl Nat.one_pos v bs.length bs rfl OWN.out ad m c ys rfl L1.out SRC.out H1.out ?c3 ?c4 ?c5 ?_)
  case c3 => unfold maxLen; omega
  case c4 => omega
  case c5 => omega
  intro v' w2 hown' hgrow _ _
  have hbk := HBK.out
  have hlt : b < w1.heap.size := by
    rcases Nat.lt_or_ge b w1.heap.size with h' | h'
    · exact h'
    · simp [Array.getElem?_eq_none h'] at hbk
  have hb2 : w2.heap[b]? = some (.cells #[.pointer (some ⟨b, 0, none⟩), v] 107 (0, 0)) := by
    rw [hgrow.block b hlt (fun e => hne e.symm)]
    exact hbk
  have d0 : w2.cell? ⟨b, 0, none⟩ = some (.pointer (some ⟨b, 0, none⟩)) := by rw [Lib.cell_of_heap hb2]; rfl
  have d1 : w2.cell? ⟨b, 1, none⟩ = some v := by rw [Lib.cell_of_heap hb2]; rfl
  have f1 : w2.frozen? ⟨b, 1, none⟩ = false := Lib.frozen_of_heap hb2 1
  obtain ⟨ao, n', cap, rfl⟩ : ∃ ao n' cap, v' = .slice ao n' cap := by
    rcases hown'.2 with ⟨hv, _⟩ | ⟨g, cap, cur, hv, _⟩
    · exact ⟨_, _, _, hv⟩
    · exact ⟨_, _, _, hv⟩
  have HO := Lib.hid hown'; have HG := Lib.hid hgrow; have HB2 := Lib.hid hb2
  clear hown' hgrow hb2 hbk c0 c1
  go_wp2
  go_ret2
  have e3 : bs.length + m = (bs ++ ys).length := by rw [List.length_append, HL.out]
  have hown' := HO.out
  rw [e3] at hown'
  refine ⟨rfl, ?_, ?_⟩
  · exact Lib.BuilderAt.put (T := 107) (e := 5) hB HB2.out (bs' := bs ++ ys) hown' (by decide)
  · exact (HB1.out.grown HG.out (by omega) (fun k hk => (OWN.out.lt k hk).1)).setCell (p := ⟨b, 1, none⟩) hB _

/-- (*strings.Builder).String. -/
theorem string_any (B b : Nat) (s : ByteArray) (w : World) (h : Lib.IsBuilder 107 5 B b (Lib.strCells s) w) (hBw : B ≤ w.heap.size) :
    Calls Tryz.prog 53 #[.pointer (some ⟨b, 0, none⟩)] w fun e w' => e = .returned (.string s) ∧ Below B w w' := by
  have h1 := Any.Builder_String_any Tryz.stringB extraS B b s.data.toList w h hBw
  exact h1

end Go.Proofs.YtbdciilkapgfjaaGreatDoor
