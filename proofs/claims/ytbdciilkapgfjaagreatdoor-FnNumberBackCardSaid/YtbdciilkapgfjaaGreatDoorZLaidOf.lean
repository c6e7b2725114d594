/- A part of the proof. -/
import Derived.Test.YtbdciilkapgfjaaGreatDoorRows
import Derived.Test.YtbdciilkapgfjaaGreatDoorZLaid
import Derived.Lib.LaidU8
import Derived.FnData
import Derived.ChangeSlices
namespace Go.Proofs.YtbdciilkapgfjaaGreatDoor
open Go.RowKit Go.Lib Go.ChangeShapes

section
variable {H : Type} {enc : TypeId × Value → H} {P : Program} {w : World} {base fuel : Nat} {sp : Nat → Bool} {t : TypeId} {cs : List Value} {p : List MemPlace}
/-- What reads as an interface's value is one. -/
theorem trod_face {ms : Array (String × TypeId)} {nm : String} {d : DataW H} (ht : P.underlying t = some (.interface ms)) (h : DataW.trod enc P w base sp false fuel t cs = some (.iface nm d, p)) : ∃ u v, cs = [.iface u v] := by
  cases fuel with
  | zero => simp [DataW.trod] at h
  | succ n =>
    unfold DataW.trod at h
    rw [ht] at h
    split at h <;> simp_all
/-- What reads as a float is one. -/
theorem trod_flt {k : FloatKind} {b : Nat} (ht : P.underlying t = some (.float k)) (h : DataW.trod enc P w base sp false fuel t cs = some (.lit (.float k b), p)) : cs = [.float k b] := by
  cases fuel with
  | zero => simp [DataW.trod] at h
  | succ n =>
    unfold DataW.trod at h
    rw [ht] at h
    split at h <;> simp_all
end

theorem opt_at {w : World} (h : VarReads Tryz.prog w "internal/strconv.optimize" (.lit (.bool true))) : w.cell? ⟨6, 0, none⟩ = some (.bool true) := by
  obtain ⟨g, t, cs, fuel, p, hg, hty, hvar, hd⟩ := h
  obtain rfl := Option.some.inj ((show Tryz.prog.globalNamed "internal/strconv.optimize" = some 6 by kernel_rfl).symm.trans hg)
  obtain rfl := Option.some.inj ((show (Tryz.prog.globals[6]?).map (·.type) = some 4 by kernel_rfl).symm.trans hty)
  obtain ⟨b, hb, hx⟩ := DataW.trod_bool Tryz.underlying4 hd
  simp only [Prod.mk.injEq, DataW.lit.injEq, Lit.bool.injEq] at hx
  obtain ⟨rfl, _⟩ := hx
  rw [World.var?_cell hg hvar 0, ← Array.getElem?_toList, hb]
  rfl
theorem info_at {w : World} (h : VarReads Tryz.prog w "internal/strconv.float64info" (.agg [.lit (.int .u64 52), .lit (.int .u64 11), .lit (.int .i64 (-1023))])) : w.cell? ⟨7, 0, none⟩ = some (.int .u64 52) := by
  obtain ⟨g, t, cs, fuel, p, hg, hty, hvar, hd⟩ := h
  obtain rfl := Option.some.inj ((show Tryz.prog.globalNamed "internal/strconv.float64info" = some 7 by kernel_rfl).symm.trans hg)
  obtain rfl := Option.some.inj ((show (Tryz.prog.globals[7]?).map (·.type) = some 234 by kernel_rfl).symm.trans hty)
  obtain ⟨xs, n, rfl, hx, hl, hxl, hall⟩ := DataW.trod_struct Tryz.underlying234 hd
  have h0 := hall 0 _ rfl
  simp only [Prod.mk.injEq, DataW.agg.injEq] at hx
  have hx0 := congrArg (·[0]?) hx.1
  simp only [List.getElem?_cons_zero, List.getElem?_map] at hx0
  obtain ⟨b, hb, hb1⟩ := Option.map_eq_some_iff.1 hx0.symm
  rw [hb] at h0
  obtain ⟨z, hz, hbz, _⟩ := DataW.trod_int (k := .u64) Tryz.underlying117 h0
  rw [hbz] at hb1
  simp only [DataW.lit.injEq, Lit.int.injEq, true_and] at hb1
  subst hb1
  change List.take (Tryz.prog.cellsOf 117) (List.drop 0 cs.toList) = _ at hz
  rw [show Tryz.prog.cellsOf 117 = 1 by kernel_rfl] at hz
  have := congrArg (·[0]?) hz
  rw [World.var?_cell hg hvar 0, ← Array.getElem?_toList]
  simpa [List.getElem?_take, List.getElem?_drop] using this
set_option maxRecDepth 100000 in
theorem pow_at {w : World} (h : VarReads Tryz.prog w "internal/strconv.float64pow10" Rows.laid_internal_strconv_float64pow10) : ∃ b o l c, w.cell? ⟨10, 0, none⟩ = some (.slice (some ⟨b, o, none⟩) l c) ∧ 1 < l ∧ l ≤ 100 ∧ w.cell? ⟨b, o + 1, none⟩ = some (.float .f64 4621819117588971520) ∧ b < w.heap.size := by
  obtain ⟨g, t, cs, fuel, p, hg, hty, hvar, hd⟩ := h
  obtain rfl := Option.some.inj ((show Tryz.prog.globalNamed "internal/strconv.float64pow10" = some 10 by kernel_rfl).symm.trans hg)
  obtain rfl := Option.some.inj ((show (Tryz.prog.globals[10]?).map (·.type) = some 269 by kernel_rfl).symm.trans hty)
  rcases DataW.trod_slice Tryz.underlying269 hd with ⟨_, hx⟩ | ⟨a, len, cap, elems, rest, n, rfl, hcs, hx, hb, h1, h2, hlen, hall, _⟩
  · simp [Rows.laid_internal_strconv_float64pow10] at hx
  · simp only [Rows.laid_internal_strconv_float64pow10, Prod.mk.injEq, DataW.slice.injEq] at hx
    have hel := hx.1.1
    have hl23 : len = 23 := by rw [← hlen]; have := congrArg List.length hel; simpa using this.symm
    have hc1 : Tryz.prog.cellsOf 39 = 1 := by kernel_rfl
    have e0 := hall 0 (by omega); have e1 := hall 1 (by omega)
    rw [hc1] at e0 e1
    have g0 := congrArg (·[0]?) hel; have g1 := congrArg (·[1]?) hel
    simp only [List.getElem?_cons_zero, List.getElem?_cons_succ, List.getElem?_map] at g0 g1
    obtain ⟨x0, hx0, hx01⟩ := Option.map_eq_some_iff.1 g0.symm
    obtain ⟨x1, hx1, hx11⟩ := Option.map_eq_some_iff.1 g1.symm
    rw [hx0] at e0
    rw [hx1] at e1
    obtain ⟨c0, hc0, hd0⟩ := Option.bind_eq_some_iff.1 e0
    obtain ⟨c1, hc1', hd1⟩ := Option.bind_eq_some_iff.1 e1
    obtain ⟨y0, p0⟩ := x0; obtain ⟨y1, p1⟩ := x1
    simp only at hx01 hx11
    subst hx01 hx11
    have k0 := trod_flt Tryz.underlying39 hd0
    have k1 := trod_flt Tryz.underlying39 hd1
    subst k0 k1
    have q0 := cell_of_cells?_one hc0
    have q1 := cell_of_cells?_one hc1'
    obtain ⟨b, o, sp⟩ := a
    have hadd0 : (⟨b, o, sp⟩ : Addr).add (0 * 1) = ⟨b, o, sp⟩ := rfl
    have hadd1 : (⟨b, o, sp⟩ : Addr).add (1 * 1) = ⟨b, o + 1, none⟩ := rfl
    rw [hadd0] at q0
    rw [hadd1] at q1
    have hsp : sp = none := by
      cases sp with
      | none => rfl
      | some s =>
        exfalso
        unfold World.cell? at q0
        split at q0
        · simp at q0
        · cases q0
    subst hsp
    refine ⟨b, o, len, cap, ?_, by omega, by omega, q1, cell_lt q1⟩
    rw [World.var?_cell hg hvar 0, ← Array.getElem?_toList, hcs]
    rfl
theorem row_at : Go.Pinned.pow10Rows[347]? = some (14757395258967641293, 3689348814741910323) := by decide +kernel
set_option maxRecDepth 100000 in
theorem tab_at {w : World} (h : VarReads Tryz.prog w "internal/strconv.pow10Tab" Go.Pinned.pow10Tab) : PowAt w := by
  obtain ⟨g, t, cs, fuel, p, hg, hty, hvar, hd⟩ := h
  obtain rfl := Option.some.inj ((show Tryz.prog.globalNamed "internal/strconv.pow10Tab" = some 11 by kernel_rfl).symm.trans hg)
  obtain rfl := Option.some.inj ((show (Tryz.prog.globals[11]?).map (·.type) = some 279 by kernel_rfl).symm.trans hty)
  obtain ⟨fuel', d, q, hdi, he⟩ := array_elem Tryz.underlying279 hd 347 (by decide)
  rw [List.getElem?_map, row_at] at hdi
  simp only [Option.map_some, Option.some.injEq] at hdi
  subst hdi
  have hc2 : Tryz.prog.cellsOf 278 = 2 := by kernel_rfl
  have hc1 : Tryz.prog.cellsOf 115 = 1 := by kernel_rfl
  rw [hc2] at he
  have hcs := ints_of_struct (zs := [14757395258967641293, 3689348814741910323]) (k := .u64) Tryz.underlying278 (fun j f hj => by
    match j, hj with
    | 0, hj => simp at hj; subst hj; exact ⟨Tryz.underlying115, rfl, hc1⟩
    | 1, hj => simp at hj; subst hj; exact ⟨Tryz.underlying115, rfl, hc1⟩
    | j + 2, hj => simp at hj) (by rw [hc2]; rfl) he
  have e0 := congrArg (·[0]?) hcs
  have e1 := congrArg (·[1]?) hcs
  simp only [List.getElem?_take, List.getElem?_drop] at e0 e1
  have f0 : w.cell? ⟨11, 694, none⟩ = some (.int .u64 14757395258967641293) := by
    rw [World.var?_cell hg hvar 694, ← Array.getElem?_toList]
    simpa using e0
  have f1 : w.cell? ⟨11, 695, none⟩ = some (.int .u64 3689348814741910323) := by
    rw [World.var?_cell hg hvar 695, ← Array.getElem?_toList]
    simpa using e1
  exact ⟨f0, f1, cell_lt f0⟩
theorem err_at {w : World} (h : VarReads Tryz.prog w "strconv.ErrSyntax" Rows.laid_strconv_ErrSyntax) : ∃ tp p, w.var? Tryz.prog "strconv.ErrSyntax" = some #[.iface tp p] := by
  obtain ⟨g, t, cs, fuel, p, hg, hty, hvar, hd⟩ := h
  obtain rfl := Option.some.inj ((show Tryz.prog.globalNamed "strconv.ErrSyntax" = some 1 by kernel_rfl).symm.trans hg)
  obtain rfl := Option.some.inj ((show (Tryz.prog.globals[1]?).map (·.type) = some 47 by kernel_rfl).symm.trans hty)
  unfold Rows.laid_strconv_ErrSyntax at hd
  obtain ⟨u, v, hcs⟩ := trod_face Tryz.underlying47 hd
  exact ⟨u, v, by rw [hvar]; congr 1; exact Array.toList_inj.1 hcs⟩

/-- What the row lays is what the reading leans on. -/
theorem laid_of {w : World} (h : laidMet Tryz.prog Rows.fnNumberBackRow.laid w) : Laid w where
  fp := ⟨opt_at (Lib.laidMet.reads h (n := "internal/strconv.optimize") (d := Rows.laid_internal_strconv_optimize) (by simp [Rows.fnNumberBackRow])), info_at (Lib.laidMet.reads h (n := "internal/strconv.float64info") (d := Rows.laid_internal_strconv_float64info) (by simp [Rows.fnNumberBackRow])), pow_at (Lib.laidMet.reads h (n := "internal/strconv.float64pow10") (d := Rows.laid_internal_strconv_float64pow10) (by simp [Rows.fnNumberBackRow]))⟩
  pow := tab_at (Lib.laidMet.reads h (n := "internal/strconv.pow10Tab") (d := Rows.laid_internal_strconv_pow10Tab) (by simp [Rows.fnNumberBackRow]))
  err := err_at (Lib.laidMet.reads h (n := "strconv.ErrSyntax") (d := Rows.laid_strconv_ErrSyntax) (by simp [Rows.fnNumberBackRow]))
end Go.Proofs.YtbdciilkapgfjaaGreatDoor
