/- A part of the proof. -/
import Derived.Test.YtbdciilkapgfjaaGreatDoorZFmtI
import Derived.Test.YtbdciilkapgfjaaGreatDoorM13
import Derived.Lib.AppendStr
import Derived.Laws.IdiomCopy
import Derived.Shelf.SlSortFuncK.RowK2
namespace Go.Proofs.YtbdciilkapgfjaaGreatDoor
open Go.RowKit

/-- An append of a text where there is room for it. -/
theorem run_append_room_text {P : Program} (w : World) (t u ty e : TypeId) (i : TypeInfo) (ht : P.underlying t = some (.slice e)) (hu : P.underlying u = some .string) (hi : P.info? e = some i) (hs1 : i.size = 1)
    (b off sLen sCap : Nat) (s : ByteArray) (hroom : sLen + s.size ≤ sCap) (hc : ∀ j, j < s.size → (w.cell? ⟨b, off + sLen + j, none⟩).isSome = true) (hf : ∀ j, j < s.size → w.frozen? ⟨b, off + sLen + j, none⟩ = false) :
    (Builtin.append_ #[t, u] ty #[.slice (some ⟨b, off, none⟩) sLen sCap, .string s]).run P w = .ok (.slice (some ⟨b, off, none⟩) (sLen + s.size) sCap) (w.setCells b (off + sLen) (Lib.strCells s)) := by
  have hfc := Lib.run_firstCells_string (P := P) w 1 s
  have hst := run_storeCells_cells (P := P) b (off + sLen) (Lib.strCells s) 0 w (by simpa [Lib.strCells_length] using hc) (by simpa [Lib.strCells_length] using hf) (Lib.strCells_oneCell s)
  simp only [Nat.add_zero] at hst
  simp [Builtin.append_, run_underlying ht, run_underlying hu, sizeOf, typeInfo, hi, hs1, Builtin.lenOf, hroom, hfc, Addr.add_lit, hst]

theorem wpList_append_run {P : Program} {ops : Array Oper} {rest : List Oper} {o : Oper} {a : Act} {w w' : World} {Q : Exit → Act → World → Prop} (hgd : o.guard = none) (sl x : Operand) (t u : TypeId) (ho : o.op = .call { callee := .builtin .append, args := #[sl, x], argTypes := #[t, u] })
    (v v2 v' : Value) (hs : a.eval sl = v) (hx : a.eval x = v2) (hr : ∀ ty, (Builtin.append_ #[t, u] ty #[v, v2]).run P w = .ok v' w') (h : wpList P ops Q rest (a.put o.dst v') w') : wpList P ops Q (o :: rest) a w :=
  wpList_plain hgd fun K hK => wp_of_run v' (by
    unfold execOp
    simp only [ho, resolve, invoke, builtin, Sem.run_bind, Sem.run_pure, Result.andThen_ok, List.map_toArray, List.map_cons, List.map_nil, hs, hx, hr]) (hK _ _ h)

/-- 64 cells from off on in block N, none of them frozen. -/
structure Room64 (w : World) (N off : Nat) : Prop where
  cell : ∀ j, j < 64 → (w.cell? ⟨N, off + j, none⟩).isSome = true
  fr : ∀ j, j < 64 → w.frozen? ⟨N, off + j, none⟩ = false
theorem Room64.below {w w' : World} {N off B : Nat} (h : Room64 w N off) (hb : Below B w w') (hN : N < B) : Room64 w' N off :=
  ⟨fun j hj => by rw [hb.cell (p := ⟨N, off + j, none⟩) hN]; exact h.cell j hj, fun j hj => by rw [hb.frozen (p := ⟨N, off + j, none⟩) hN]; exact h.fr j hj⟩

/-- What a text looks like that has been written into a block's cells. -/
def Put (w : World) (N off : Nat) (s : ByteArray) (w' : World) : Prop := ∃ w1, Below w.heap.size w w1 ∧ w' = w1.setCells N off (Lib.strCells s)

set_option maxRecDepth 100000 in
theorem AppendInt_any (i : Int) (h1 : -1000000000000000000 ≤ i) (h2 : i ≤ 1000000000000000000) {N off : Nat} {w : World} (hr : Room64 w N off) (hN : N < w.heap.size) :
    Calls Tryz.prog 66 #[.slice (some ⟨N, off, none⟩) 0 64, .int .i64 i, .int .i64 10] w fun e w' => e = .returned (.slice (some ⟨N, off, none⟩) (itxt i).size 64) ∧ Put w N off (itxt i) w' := by
  have hin : (Tryz.prog.info? 5).map (fun i => (i.zero, i.size, i.bytes)) = some (some (.int .u8 0), 1, 1) := by kernel_rfl
  obtain ⟨i0, hi, hz0, hz1, hz2⟩ := info_parts hin
  have F := Lib.hid (FormatInt_any i h1 h2 w)
  have hsz : (itxt i).size ≤ 21 := by
    have := digs_len (n := i.natAbs) (k := 20) (by decide) (by omega)
    unfold itxt
    split
    · rw [ByteArray.size_append, dtxt_size]; show 1 + _ ≤ _; omega
    · rw [dtxt_size]; omega
  have HR := Lib.hid hr; have HI := Lib.hid hi; have HZ := Lib.hid hz1
  clear hr h1 h2 hi hz0 hz1 hz2 hin
  generalize itxt i = s at *
  go_enter Tryz.func66, Tryz.ntmps66
  go_wp2_with fail
  refine F.out.mono ?_
  rintro e w1 ⟨rfl, hb⟩
  have hroom := HR.out.below hb hN
  have happ := fun ty => run_append_room_text (P := Tryz.prog) w1 105 9 ty 5 i0 Tryz.underlying105 Tryz.underlying9 HI.out HZ.out N off 0 64 s (by omega) (fun j hj => hroom.cell j (by omega)) (fun j hj => hroom.fr j (by omega))
  simp only [Nat.add_zero, Nat.zero_add] at happ
  have HB := Lib.hid hb
  clear hb hroom
  go_wp2_with (at_builtin; go_loud (refine wpList_append_run rfl (.tmp 7) (.tmp 10) 105 9 rfl _ _ _ rfl rfl happ ?_))
  go_ret
  exact ⟨rfl, w1, HB.out, rfl⟩
end Go.Proofs.YtbdciilkapgfjaaGreatDoor
