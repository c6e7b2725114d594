/- A part of the proof. -/
import Derived.Test.YtfgmegfgifeaiaaGreatDoorShelfB
import Derived.Test.YtfgmegfgifeaiaaGreatDoorZSumS
import Derived.RangeFuncCalls
import Derived.Lib.AppendStr
import Derived.Laws.Externs
namespace Go.Proofs.YtfgmegfgifeaiaaGreatDoor
open Go.RowKit Go.Shelf

theorem extraS : Builder.Extra Tryz.prog Tryz.stringB_ren :=
  { sizeBuilder := by kernel_rfl, liesBuilder := by kernel_rfl, t5 := Tryz.underlying5, a5 := Tryz.isAgg5, z5 := Tryz.sizeOf5, v5 := Tryz.zeroValue5, infoByte := by kernel_rfl, cellsByte := by kernel_rfl, sizeByte := by kernel_rfl, neB5 := by decide }

set_option maxRecDepth 100000 in
/-- copyCheck at a builder that has been used: nothing turns. -/
theorem copyCheck_used (b : Nat) (w : World) (h0 : w.cell? ⟨b, 0, none⟩ = some (.pointer (some ⟨b, 0, none⟩))) :
    Calls Tryz.prog 129 #[.pointer (some ⟨b, 0, none⟩)] w fun e w' => e = .returned (.tuple #[]) ∧ w' = w := by
  obtain ⟨j, hj, _⟩ := Option.map_eq_some_iff.1 extraS.sizeBuilder
  go_enter Tryz.func129, Tryz.ntmps129
  go_wp2
  rw [Lib.run_neq_ptr_same w _ Tryz.underlying133 hj]
  go_wp2
  go_end0
  exact ⟨rfl, rfl⟩

set_option maxRecDepth 100000 in
/-- copyCheck at a fresh builder: it stores its own address. -/
theorem copyCheck_fresh (b : Nat) (w : World) (h0 : w.cell? ⟨b, 0, none⟩ = some (.pointer none)) (hsh : w.shape? b = some (135, 2)) (hfz : w.frozen? ⟨b, 0, none⟩ = false) :
    Calls Tryz.prog 129 #[.pointer (some ⟨b, 0, none⟩)] w fun e w' => e = .returned (.tuple #[]) ∧ w' = w.setCell ⟨b, 0, none⟩ (.pointer (some ⟨b, 0, none⟩)) := by
  obtain ⟨j, hj, hjs⟩ := Option.map_eq_some_iff.1 extraS.sizeBuilder
  have hj' : Tryz.prog.info? 135 = some j := hj
  go_enter Tryz.func129, Tryz.ntmps129
  go_wp2
  rw [Lib.run_to_unsafe w ⟨b, 0, none⟩ Tryz.underlying133 Tryz.underlying184 hj' (by rw [hjs]; decide) hsh (Nat.zero_lt_succ 1)]
  simp only [Result.andThen]
  rw [Oper.upon_value]
  go_wp2
  rw [run_callFunc_extern Tryz.func150 (by kernel_rfl) (by kernel_rfl) (by kernel_rfl) (e := Extern.AbiNoEscape.same) (by kernel_rfl)]
  rw [Lib.run_noEscape]
  simp only [Result.andThen]
  rw [Oper.upon_value]
  go_wp2
  rw [Lib.run_from_unsafe w ⟨b, 0, none⟩ Tryz.underlying184 Tryz.underlying133 hj' hsh extraS.liesBuilder]
  simp only [Result.andThen]
  rw [Oper.upon_value]
  go_wp2
  go_end0
  exact ⟨rfl, rfl⟩

/-- copyCheck: behind it the builder is used. -/
theorem copyCheck_any (B b : Nat) (bs : List Value) (w : World) (h : Lib.IsBuilder 135 5 B b bs w) :
    Calls Tryz.prog 129 #[.pointer (some ⟨b, 0, none⟩)] w fun e w' => e = .returned (.tuple #[]) ∧ (Lib.BuilderAt 135 5 B b (.pointer (some ⟨b, 0, none⟩)) bs w' ∧ Below B w w') := by
  rcases h with h | h
  · refine (copyCheck_fresh b w h.cell0 h.shape h.frozen0).mono ?_
    rintro e w' ⟨rfl, rfl⟩
    exact ⟨rfl, h.used _, (Below.refl B w).setCell (p := ⟨b, 0, none⟩) h.1 _⟩
  · refine (copyCheck_used b w h.cell0).mono ?_
    rintro e w' ⟨rfl, rfl⟩
    exact ⟨rfl, h, Below.refl B _⟩

set_option maxHeartbeats 2000000 in
set_option maxRecDepth 100000 in
/-- (*strings.Builder).WriteString. -/
theorem writeString_any (B b : Nat) (bs : List Value) (s : ByteArray) (w : World) (h : Lib.IsBuilder 135 5 B b bs w) (hlen : bs.length + s.size ≤ 140737488355328) (hBw : B ≤ w.heap.size) :
    Calls Tryz.prog 104 #[.pointer (some ⟨b, 0, none⟩), .string s] w fun e w' => e = .returned (.tuple #[.int .i64 s.size, .nilIface]) ∧ (Lib.BuilderAt 135 5 B b (.pointer (some ⟨b, 0, none⟩)) (bs ++ Lib.strCells s) w' ∧ Below B w w') := by
  have hin : (Tryz.prog.info? 5).map (fun i => (i.zero, i.size, i.bytes)) = some (some (.int .u8 0), 1, 1) := by kernel_rfl
  obtain ⟨i0, hi, hz0, hz1, hz2⟩ := info_parts hin
  go_enter Tryz.func104, Tryz.ntmps104
  go_wp2_with (go_at_call 129; refine (copyCheck_any B b bs _ h).mono ?_)
  rintro e w1 ⟨rfl, h1, hb1⟩
  obtain ⟨hB, v, hbk, hown, hne⟩ := h1
  have c0 : w1.cell? ⟨b, 0, none⟩ = some (.pointer (some ⟨b, 0, none⟩)) := by rw [Lib.cell_of_heap hbk]; rfl
  have c1 : w1.cell? ⟨b, 1, none⟩ = some v := by rw [Lib.cell_of_heap hbk]; rfl
  go_wp2_with (at_builtin; refine Lib.wpList_append_own_string _ rfl _ _ 108 9 rfl B 5 i0 Tryz.underlying108 Tryz.underlying9 hi hz0 hz1 hz2 _ _ _ rfl hown s rfl ?c3 ?c4 ?c5 ?_)
  case c3 => unfold maxLen; omega
  case c4 => omega
  case c5 => have := hb1.size; omega
  intro v' w2 hown' hgrow _
  have hlt : b < w1.heap.size := by
    rcases Nat.lt_or_ge b w1.heap.size with h' | h'
    · exact h'
    · simp [Array.getElem?_eq_none h'] at hbk
  have hb2 : w2.heap[b]? = some (.cells #[.pointer (some ⟨b, 0, none⟩), v] 135 (0, 0)) := by
    rw [hgrow.block b hlt (fun e => hne e.symm)]
    exact hbk
  have d0 : w2.cell? ⟨b, 0, none⟩ = some (.pointer (some ⟨b, 0, none⟩)) := by rw [Lib.cell_of_heap hb2]; rfl
  have d1 : w2.cell? ⟨b, 1, none⟩ = some v := by rw [Lib.cell_of_heap hb2]; rfl
  have f1 : w2.frozen? ⟨b, 1, none⟩ = false := Lib.frozen_of_heap hb2 1
  obtain ⟨ao, n', cap, rfl⟩ : ∃ ao n' cap, v' = .slice ao n' cap := by
    rcases hown'.2 with ⟨hv, _⟩ | ⟨g, cap, cur, hv, _⟩
    · exact ⟨_, _, _, hv⟩
    · exact ⟨_, _, _, hv⟩
  go_wp2
  go_ret2
  refine ⟨rfl, ?_, ?_⟩
  · exact Lib.BuilderAt.put (T := 135) (e := 5) hB hb2 (bs' := bs ++ Lib.strCells s) (by simpa [Lib.strCells_length] using hown') (by decide)
  · exact (hb1.grown hgrow (by have := hb1.size; omega) (fun k hk => (hown.lt k hk).1)).setCell (p := ⟨b, 1, none⟩) hB _

/-- (*strings.Builder).String. -/
theorem string_any (B b : Nat) (s : ByteArray) (w : World) (h : Lib.IsBuilder 135 5 B b (Lib.strCells s) w) (hBw : B ≤ w.heap.size) :
    Calls Tryz.prog 107 #[.pointer (some ⟨b, 0, none⟩)] w fun e w' => e = .returned (.string s) ∧ Below B w w' := by
  have h1 := Any.Builder_String_any Tryz.stringB extraS B b s.data.toList w h hBw
  exact h1

/-- maps.Clone. -/
theorem clone_any {b : Nat} {m : List (ByteArray × Value)} {w : World} (h : MapAt w b m) : Calls Tryz.prog 105 #[.map (some b)] w fun e w' => e = .returned (.map (some w.heap.size)) ∧ MapAt w' w.heap.size m ∧ Below w.heap.size w w' := by
  obtain ⟨es, c, hb, r⟩ := h
  refine (AnyW.maps_Clone Tryz.cloneW b es c w hb).mono ?_
  rintro e w' ⟨rfl, rfl⟩
  exact ⟨rfl, ⟨es, c, heap_alloc_at _ _, r⟩, (Below.refl _ _).alloc (Nat.le_refl _) _⟩

/-- maps.Copy. -/
theorem copy_any {bd bs : Nat} {md ms : List (ByteArray × Value)} {w : World} (hd : MapAt w bd md) (hs : MapAt w bs ms) (hne : bd ≠ bs) (ld : md.length ≤ 1000000) (ls : ms.length ≤ 1000000) (kd : ∀ p ∈ md, p.1.size ≤ maxLen) (ks : ∀ p ∈ ms, p.1.size ≤ maxLen) :
    Calls Tryz.prog 106 #[.map (some bd), .map (some bs)] w fun e w' => e = .returned (.tuple #[]) ∧ (∃ mv, MapAt w' bd mv ∧ Laid mv md ms) ∧ w.grownBy w' (some bd) := by
  obtain ⟨Dd, hod, _, hsd⟩ := owns_held hd ld kd
  obtain ⟨Ds, hos, zs, hss⟩ := owns_held hs ls ks
  refine (AnyX.maps_Copy Tryz.copyX (Maps.string_keyed Tryz.underlying9) heldR bd bs md.length ms.length Dd Ds w hod hos hne (by rw [zs]; unfold maxLen; omega)).mono ?_
  rintro e w' ⟨rfl, h1, _, h2⟩
  obtain ⟨mv, hm, hv⟩ := mapAt_held h1
  obtain ⟨es, e1, _⟩ := Says.keys hod
  exact ⟨rfl, ⟨mv, hm, laid_of hsd hss ⟨es, e1⟩ (Says.keys hos) hv⟩, h2⟩

@[go_sem] theorem as_nil_pb (w : World) : (Instr.typeAssert .nilIface 20 133 true).run Tryz.prog w = .ok (.tuple #[.pointer none, .bool false]) w := by kernel_rfl
@[go_sem] theorem as_bool_pb (v : Value) (w : World) : (Instr.typeAssert (.iface 4 v) 20 133 true).run Tryz.prog w = .ok (.tuple #[.pointer none, .bool false]) w := by kernel_rfl
@[go_sem] theorem as_int_pb (v : Value) (w : World) : (Instr.typeAssert (.iface 3 v) 20 133 true).run Tryz.prog w = .ok (.tuple #[.pointer none, .bool false]) w := by kernel_rfl
@[go_sem] theorem as_float_pb (v : Value) (w : World) : (Instr.typeAssert (.iface 57 v) 20 133 true).run Tryz.prog w = .ok (.tuple #[.pointer none, .bool false]) w := by kernel_rfl
@[go_sem] theorem as_anys_pb (v : Value) (w : World) : (Instr.typeAssert (.iface 58 v) 20 133 true).run Tryz.prog w = .ok (.tuple #[.pointer none, .bool false]) w := by kernel_rfl
@[go_sem] theorem as_map_pb (v : Value) (w : World) : (Instr.typeAssert (.iface 61 v) 20 133 true).run Tryz.prog w = .ok (.tuple #[.pointer none, .bool false]) w := by kernel_rfl
@[go_sem] theorem as_string_pb (v : Value) (w : World) : (Instr.typeAssert (.iface 9 v) 20 133 true).run Tryz.prog w = .ok (.tuple #[.pointer none, .bool false]) w := by kernel_rfl
@[go_sem] theorem as_pb_pb (v : Value) (w : World) : (Instr.typeAssert (.iface 133 v) 20 133 true).run Tryz.prog w = .ok (.tuple #[v, .bool true]) w := by kernel_rfl
@[go_sem] theorem as_pb_anys (v : Value) (w : World) : (Instr.typeAssert (.iface 133 v) 20 58 true).run Tryz.prog w = .ok (.tuple #[.slice none 0 0, .bool false]) w := by kernel_rfl
@[go_sem] theorem as_pb_map (v : Value) (w : World) : (Instr.typeAssert (.iface 133 v) 20 61 true).run Tryz.prog w = .ok (.tuple #[.map none, .bool false]) w := by kernel_rfl
end Go.Proofs.YtfgmegfgifeaiaaGreatDoor
