/- A part of the proof. A part of the proof. A part of the proof. A part of the proof. -/
import Derived.Test.YtnaijgdffbfapaaGreatDoorM20
import Derived.Test.YtnaijgdffbfapaaGreatDoorM12
import Derived.Test.YtnaijgdffbfapaaGreatDoorM21
import Derived.Test.YtnaijgdffbfapaaGreatDoorTypes
import Derived.LoopTactic
import Derived.Deep.DeepCutAuto
import Derived.Deep.CutBlock
namespace Go.Proofs.YtnaijgdffbfapaaGreatDoor
open Go.RowKit

/-- A store of what is there changes nothing. -/
theorem setCell_self {w : World} {a : Addr} {u : Value} (h : w.cell? a = some u) : w.setCell a u = w := by
  unfold World.cell? at h
  split at h
  · rename_i c e f hb
    split at h
    · cases h
    · rename_i hs
      have hlt := (Array.getElem?_eq_some_iff.1 hb).1
      have hblk : w.heap[a.block] = .cells c e f := (Array.getElem?_eq_some_iff.1 hb).2
      have hoff := (Array.getElem?_eq_some_iff.1 h).1
      have hval : c[a.off] = u := (Array.getElem?_eq_some_iff.1 h).2
      have hc : c.setIfInBounds a.off u = c := by
        apply Array.ext
        · simp
        · intro i h1 h2
          rw [Array.getElem_setIfInBounds]
          split
          · rename_i e1; subst e1; exact hval.symm
          · rfl
      have hh : (w.setCell a u).heap = w.heap := by
        unfold World.setCell
        simp only
        apply Array.ext
        · simp
        · intro i h1 h2
          rw [Array.getElem_modify]
          split
          · rename_i e1; subst e1
            simp only [hblk, hc]
          · rfl
      have : w.setCell a u = { w with heap := (w.setCell a u).heap } := rfl
      rw [this, hh]
  · cases h

/-- An empty struct, in an interface. -/
def emptyV : Value := .iface 102 (.agg #[])

/-- v reads as j, but that at path p stands an empty struct: what the path leads through lies in blocks from lo to hi, all else in S. -/
def UR (w : World) (S : Nat → Prop) (lo : Nat) : List Stp → Nat → J → Value → Prop
  | [], _, _, v => v = emptyV
  | .idx i :: p, hi, .arr l, v => ∃ N xs jx x, v = .iface 58 (.slice (some ⟨N, 0, none⟩) l.length l.length) ∧ lo ≤ N ∧ N < hi ∧ Arr w N 20 xs ∧ xs.length = l.length ∧ l[i]? = some jx ∧ xs[i]? = some x ∧ UR w S lo p N jx x ∧
      ∀ (k : Nat) (jy : J), k ≠ i → l[k]? = some jy → ∃ y, xs[k]? = some y ∧ GR w S jy.g y
  | .key s :: p, hi, .obj m, v => ∃ N mv jx x, v = .iface 61 (.map (some N)) ∧ lo ≤ N ∧ N < hi ∧ MapAt w N mv ∧ (mv.map (·.1)).Perm (m.map (·.1)) ∧ (s, jx) ∈ m ∧ (s, x) ∈ mv ∧ UR w S lo p N jx x ∧
      ∀ q ∈ m, q.1 ≠ s → ∃ y, (q.1, y) ∈ mv ∧ GR w S q.2.g y
  | _, _, _, _ => False

theorem UR.go {w w' : World} {S : Nat → Prop} {lo : Nat} (hS : Same S w w') : ∀ (p : List Stp) {hi hi' : Nat} {j : J} {v : Value}, (∀ b, lo ≤ b → b < hi → w'.heap[b]? = w.heap[b]?) → hi ≤ hi' → UR w S lo p hi j v → UR w' S lo p hi' j v
  | [], _, _, _, _, _, _, h => h
  | .idx i :: p, hi, hi', j, v, hN, hle, h => by
    cases j with
    | arr l =>
      obtain ⟨N, xs, jx, x, h1, h2, h3, h4, h5, h6, h7, h8, h9⟩ := h
      exact ⟨N, xs, jx, x, h1, h2, by omega, h4.same (hN N h2 h3), h5, h6, h7, UR.go hS p (fun b hb hb' => hN b hb (by omega)) (Nat.le_refl _) h8, fun k jy hk hjy => by
        obtain ⟨y, e1, e2⟩ := h9 k jy hk hjy
        exact ⟨y, e1, e2.go hS (fun _ h => h)⟩⟩
    | _ => exact h.elim
  | .key s :: p, hi, hi', j, v, hN, hle, h => by
    cases j with
    | obj m =>
      obtain ⟨N, mv, jx, x, h1, h2, h3, h4, h5, h6, h7, h8, h9⟩ := h
      exact ⟨N, mv, jx, x, h1, h2, by omega, h4.same (hN N h2 h3), h5, h6, h7, UR.go hS p (fun b hb hb' => hN b hb (by omega)) (Nat.le_refl _) h8, fun q hq hqs => by
        obtain ⟨y, e1, e2⟩ := h9 q hq hqs
        exact ⟨y, e1, e2.go hS (fun _ h => h)⟩⟩
    | _ => exact h.elim

/-- Nothing but blocks from lo to hi, and new ones, has changed. -/
structure Inside (lo hi : Nat) (w w' : World) : Prop where
  os : w'.os = w.os
  tape : w'.tape = w.tape
  output : w'.output = w.output
  size : w.heap.size ≤ w'.heap.size
  block : ∀ k, k < w.heap.size → ¬ (lo ≤ k ∧ k < hi) → w'.heap[k]? = w.heap[k]?
theorem Inside.of_below {lo hi : Nat} {w w' : World} (h : Below w.heap.size w w') : Inside lo hi w w' := ⟨h.os, h.tape, h.output, h.size, fun k hk _ => h.block k hk⟩
theorem Inside.refl (lo hi : Nat) (w : World) : Inside lo hi w w := ⟨rfl, rfl, rfl, Nat.le_refl _, fun _ _ _ => rfl⟩
theorem Inside.trans {lo hi : Nat} {a b c : World} (h : Inside lo hi a b) (k : Inside lo hi b c) : Inside lo hi a c :=
  ⟨k.os.trans h.os, k.tape.trans h.tape, k.output.trans h.output, Nat.le_trans h.size k.size, fun i hi' hn => (k.block i (Nat.lt_of_lt_of_le hi' h.size) hn).trans (h.block i hi' hn)⟩
theorem Inside.wider {lo hi hi' : Nat} {w w' : World} (h : Inside lo hi w w') (hh : hi ≤ hi') : Inside lo hi' w w' := ⟨h.os, h.tape, h.output, h.size, fun k hk hn => h.block k hk (fun hk' => hn ⟨hk'.1, by omega⟩)⟩
theorem Inside.setCell {lo hi : Nat} {w w' : World} (h : Inside lo hi w w') {a : Addr} (h1 : lo ≤ a.block) (h2 : a.block < hi) (u : Value) : Inside lo hi w (w'.setCell a u) :=
  ⟨h.os, h.tape, h.output, by simpa [World.setCell] using h.size, fun k hk hn => (Below.heap_setCell _ _ _ _ (by intro e; subst e; exact hn ⟨h1, h2⟩)).trans (h.block k hk hn)⟩
theorem Inside.below {lo hi : Nat} {w w' : World} (h : Inside lo hi w w') (hlo : lo ≤ w.heap.size) : Below lo w w' := ⟨h.os, h.tape, h.output, h.size, fun k hk => h.block k (by omega) (by omega)⟩
theorem Inside.grown {lo hi r : Nat} {w w1 w2 : World} (h : Inside lo hi w w1) (hg : w1.grownBy w2 (some r)) (hr : (lo ≤ r ∧ r < hi) ∨ w.heap.size ≤ r) : Inside lo hi w w2 :=
  ⟨hg.os.trans h.os, hg.tape.trans h.tape, hg.output.trans h.output, Nat.le_trans h.size hg.size, fun k hk hn => (hg.block k (Nat.lt_of_lt_of_le hk h.size) (fun e => by cases e; rcases hr with hr | hr <;> first | exact hn hr | omega)).trans (h.block k hk hn)⟩
end Go.Proofs.YtnaijgdffbfapaaGreatDoor

namespace Go.Proofs.YtnaijgdffbfapaaGreatDoor
open Go.RowKit

@[go_sem] theorem as_bool_empty (v : Value) (w : World) : (Instr.typeAssert (.iface 4 v) 20 102 true).run Tryz.prog w = .ok (.tuple #[.agg #[], .bool false]) w := by kernel_rfl
@[go_sem] theorem as_int_empty (v : Value) (w : World) : (Instr.typeAssert (.iface 3 v) 20 102 true).run Tryz.prog w = .ok (.tuple #[.agg #[], .bool false]) w := by kernel_rfl
@[go_sem] theorem as_float_empty (v : Value) (w : World) : (Instr.typeAssert (.iface 57 v) 20 102 true).run Tryz.prog w = .ok (.tuple #[.agg #[], .bool false]) w := by kernel_rfl
@[go_sem] theorem as_string_empty (v : Value) (w : World) : (Instr.typeAssert (.iface 9 v) 20 102 true).run Tryz.prog w = .ok (.tuple #[.agg #[], .bool false]) w := by kernel_rfl
@[go_sem] theorem as_anys_empty (v : Value) (w : World) : (Instr.typeAssert (.iface 58 v) 20 102 true).run Tryz.prog w = .ok (.tuple #[.agg #[], .bool false]) w := by kernel_rfl
@[go_sem] theorem as_map_empty (v : Value) (w : World) : (Instr.typeAssert (.iface 61 v) 20 102 true).run Tryz.prog w = .ok (.tuple #[.agg #[], .bool false]) w := by kernel_rfl
@[go_sem] theorem as_nil_empty (w : World) : (Instr.typeAssert .nilIface 20 102 true).run Tryz.prog w = .ok (.tuple #[.agg #[], .bool false]) w := by kernel_rfl
end Go.Proofs.YtnaijgdffbfapaaGreatDoor

namespace Go.Proofs.YtnaijgdffbfapaaGreatDoor
open Go.RowKit

theorem eql_empty (t : TypeId) (u : Value) (w : World) (ht : t = 4 ∨ t = 3 ∨ t = 57 ∨ t = 9 ∨ t = 58 ∨ t = 61) : (binOp .eql 20 (.iface t u) (.iface 102 (.agg #[]))).run Tryz.prog w = .ok (.bool false) w := by
  rcases ht with rfl | rfl | rfl | rfl | rfl | rfl <;> kernel_rfl
theorem neq_empty (t : TypeId) (u : Value) (w : World) (ht : t = 4 ∨ t = 3 ∨ t = 57 ∨ t = 9 ∨ t = 58 ∨ t = 61) : (binOp .neq 20 (.iface t u) (.iface 102 (.agg #[]))).run Tryz.prog w = .ok (.bool true) w := by
  rcases ht with rfl | rfl | rfl | rfl | rfl | rfl <;> kernel_rfl
theorem guard_empty (op : BinOp) (t : TypeId) (X Y : Operand) (x : Value) (hx : x = .nilIface ∨ ∃ t u, x = .iface t u) (w : World) : (eqGuard op t X Y x (.iface 102 (.agg #[]))).run Tryz.prog w = .ok () w := by
  rcases hx with rfl | ⟨t, u, rfl⟩ <;> cases op <;> rfl
/-- A value of the package: nil, or of one of six types. -/
theorem GR.kinds {w : World} {S : Nat → Prop} {j : J} {v : Value} (h : GR w S j.g v) : v = .nilIface ∨ ∃ t u, v = .iface t u ∧ (t = 4 ∨ t = 3 ∨ t = 57 ∨ t = 9 ∨ t = 58 ∨ t = 61) := by
  have h := h.head
  cases j with
  | null => rw [J.g] at h; exact Or.inl h
  | bool b => rw [J.g] at h; exact Or.inr ⟨_, _, h, by simp⟩
  | num n =>
    rw [J.g] at h
    split at h
    · exact Or.inr ⟨_, _, h, by simp⟩
    · exact Or.inr ⟨_, _, h, by simp⟩
  | str s => rw [J.g] at h; exact Or.inr ⟨_, _, h, by simp⟩
  | arr l => rw [J.g_arr] at h; obtain ⟨a, h⟩ := h; exact Or.inr ⟨_, _, h, by simp⟩
  | obj m => rw [J.g_obj] at h; obtain ⟨b, es, clock, h, _⟩ := h; exact Or.inr ⟨_, _, h, by simp⟩
/-- A value of the package is no empty struct. -/
theorem GR.noEmpty {w : World} {S : Nat → Prop} {j : J} {v : Value} (h : GR w S j.g v) (w' : World) : (binOp .eql 20 v (.iface 102 (.agg #[]))).run Tryz.prog w' = .ok (.bool false) w' ∧ (binOp .neq 20 v (.iface 102 (.agg #[]))).run Tryz.prog w' = .ok (.bool true) w' := by
  rcases h.kinds with rfl | ⟨t, u, rfl, ht⟩
  · exact ⟨by kernel_rfl, by kernel_rfl⟩
  · exact ⟨eql_empty t u w' ht, neq_empty t u w' ht⟩

theorem GR.arrU {w : World} {S : Nat → Prop} {l : List J} {v : Value} (h : GR w S (J.arr l).g v) :
    ∃ a, v = .iface 58 (.slice a l.length l.length) ∧ ∀ i (_ : i < l.length), ∃ b o x, a = some ⟨b, o, none⟩ ∧ S b ∧ w.cell? ⟨b, o + i, none⟩ = some x ∧ w.frozen? ⟨b, o + i, none⟩ = false ∧ GR w S l[i].g x := by
  rw [J.g_arr, GR] at h
  obtain ⟨⟨a, rfl⟩, h2, _⟩ := h
  refine ⟨a, by simp, fun i hi => ?_⟩
  obtain ⟨b, o, x, e1, e2, e3, ef, e4⟩ := h2 i (by simpa [G.list] using hi)
  exact ⟨b, o, x, e1, e2, e3, ef, by simpa [G.list] using e4⟩

set_option maxRecDepth 100000 in
theorem deleteEmpty_arr {S : Nat → Prop} {l : List J} {a : Option Addr} {w : World} (hl : l.length ≤ 400) (hS : ∀ b, S b → b < w.heap.size)
    (hel : ∀ i (_ : i < l.length), ∃ b o x, a = some ⟨b, o, none⟩ ∧ S b ∧ w.cell? ⟨b, o + i, none⟩ = some x ∧ w.frozen? ⟨b, o + i, none⟩ = false ∧ GR w S l[i].g x)
    (ih : ∀ i (_ : i < l.length) (x : Value) (w' : World), GR w' S l[i].g x → (∀ b, S b → b < w'.heap.size) → Calls Tryz.prog 52 #[x] w' fun e w'' => e = .returned x ∧ Below w'.heap.size w' w'') :
    Calls Tryz.prog 52 #[.iface 58 (.slice a l.length l.length)] w fun e w' => e = .returned (.iface 58 (.slice a l.length l.length)) ∧ Below w.heap.size w w' := by
  have HE := Lib.hid hel; have IH := Lib.hid ih; have HS := Lib.hid hS
  clear hel ih hS
  go_enter Tryz.func52, Tryz.ntmps52
  go_wp2_with fail
  go_loopw [8, 45] (fun u i wr => ∃ k : Nat, u = .int .i64 k ∧ i = .int .i64 k ∧ k ≤ l.length ∧ Below w.heap.size w wr) (fun _ i _ => l.length - (intOf i).toNat)
  case atStart => exact ⟨0, rfl, rfl, Nat.zero_le _, Below.refl _ _⟩
  case round =>
    obtain ⟨k, rfl, rfl, hk, hbw⟩ := hrel
    have BW := Lib.hid hbw
    by_cases hlt : k < l.length
    · obtain ⟨b, o, x, rfl, hb, hc, hf, hg⟩ := HE.out k hlt
      have c1 := (hbw.cell (p := ⟨b, o + k, none⟩) (HS.out b hb)).trans hc
      have hg1 := hg.go (w' := wr) (S' := S) (fun b hb => hbw.block b (HS.out b hb)) (fun _ h => h)
      have hop := fun w' => (hg1.noEmpty w').2
      have hop2 := fun X Y w' => guard_empty .neq 20 X Y x hg1.form w'
      have I := Lib.hid (IH.out k hlt x wr hg1 (fun b hb => Nat.lt_of_lt_of_le (HS.out b hb) hbw.size))
      have form := hg.form
      have HC := Lib.hid hc; have HF := Lib.hid hf; have HB := Lib.hid (HS.out b hb)
      clear hbw hg hg1 hc hf hb
      go_wp2_with (simp only [hop, hop2])
      refine I.out.mono ?_
      rintro e w2 ⟨rfl, hb2⟩
      have B2 := Lib.hid (BW.out.trans (hb2.mono BW.out.size))
      have c2 := (B2.out.cell (p := ⟨b, o + k, none⟩) HB.out).trans HC.out
      have f2 := (B2.out.frozen (p := ⟨b, o + k, none⟩) HB.out).trans HF.out
      have SS := Lib.hid (setCell_self c2)
      clear hop hop2 I hb2 c1
      rcases form with rfl | ⟨t', u, rfl⟩
      all_goals
        go_wp2_with fail
        go_roundw
        case rel => exact ⟨k + 1, by go_num, by go_num, by omega, by rw [SS.out]; exact B2.out⟩
        case measure => simp [intOf]; omega
    · obtain rfl : k = l.length := by omega
      clear hbw
      go_wp2_with fail
      go_loopw [11] (fun i wr => i = .int .i64 l.length ∧ Below w.heap.size w wr) (fun _ _ => 0)
      case atStart => exact ⟨rfl, BW.out⟩
      case round =>
        obtain ⟨rfl, hbw⟩ := hrel
        have BW2 := Lib.hid hbw
        clear hbw
        go_wp2_with fail
        go_ret
        exact ⟨rfl, BW2.out⟩

/-- The entries of a map, by their keys. -/
theorem GR.objU {w : World} {S : Nat → Prop} {m : List (ByteArray × J)} {v : Value} (h : GR w S (J.obj m).g v) :
    ∃ b mv, v = .iface 61 (.map (some b)) ∧ S b ∧ MapAt w b mv ∧ mv.map (·.1) = m.map (·.1) ∧ mv.length = m.length ∧ ∀ i (_ : i < m.length) (h : i < mv.length), mv[i].1 = m[i].1 ∧ GR w S m[i].2.g mv[i].2 := by
  rw [J.g_obj] at h
  obtain ⟨b, vs, rfl, hS, hlen, hM, hG⟩ := h.mapAt
  have e1 : (m.map fun x => (x.1, x.2.g)).map (·.1) = m.map (·.1) := by rw [List.map_map]; rfl
  have hlen' : vs.length = m.length := by simpa using hlen
  rw [e1] at hM
  refine ⟨b, (m.map (·.1)).zip vs, rfl, hS, hM, by rw [List.map_fst_zip (by simp [hlen'])], by simp [hlen'], fun i hi h => ?_⟩
  have := hG i (by simpa using hi) (by omega)
  refine ⟨by simp, ?_⟩
  simp only [List.getElem_zip]
  simpa [G.ents] using this

set_option maxRecDepth 100000 in
theorem deleteEmpty_map {S : Nat → Prop} {b : Nat} {mv : List (ByteArray × Value)} {w : World} (hS : ∀ b, S b → b < w.heap.size) (hM : MapAt w b mv) (hb : S b)
    (hel : ∀ s v, (s, v) ∈ mv → ∃ j : J, GR w S j.g v ∧ ∀ w', GR w' S j.g v → (∀ b, S b → b < w'.heap.size) → Calls Tryz.prog 52 #[v] w' fun e w'' => e = .returned v ∧ Below w'.heap.size w' w'') :
    Calls Tryz.prog 52 #[.iface 61 (.map (some b))] w fun e w' => e = .returned (.iface 61 (.map (some b))) ∧ Below w.heap.size w w' := by
  have HE := Lib.hid hel; have HS := Lib.hid hS; have HM := Lib.hid hM
  have hbl := hS b hb
  have HB := Lib.hid hbl
  have hne : b ≠ w.heap.size := by omega
  have HNE := Lib.hid hne
  clear hel hS hM hb hbl hne
  go_enter Tryz.func52, Tryz.ntmps52
  go_wp2_with (first
    | (at_range; refine wpList_range_R rfl _ 61 rfl 9 20 Tryz.underlying61 b mv rfl HM.out ?_; intro o' hrg)
    | go_in)
  go_frame
  have HRG := Lib.hid hrg
  clear hrg
  go_loopw [5] (fun _ wr => ∃ left, Ranges wr b w.heap.size mv left ∧ Below w.heap.size w wr) (fun _ wr => rangeN wr b w.heap.size)
  case atStart => exact ⟨_, HRG.out, (Below.refl _ _).alloc (Nat.le_refl _) _⟩
  case round =>
    obtain ⟨left, hrg, hbw⟩ := hrel
    have HR := Lib.hid hrg; have BW := Lib.hid hbw
    clear hrg hbw HRG
    go_wp2_with (first
      | (at_next; refine wpList_next_R rfl _ rfl b w.heap.size mv left HNE.out rfl HR.out ?_ ?_)
      | go_in)
    · intro hall
      have HA := Lib.hid hall
      clear hall
      go_wp2_with fail
      go_ret
      exact ⟨rfl, BW.out⟩
    · intro s v w1 hsv hls hrg1 hg1 hs1 hen
      obtain ⟨j, hg, hcall⟩ := HE.out s v hsv
      have B1 := Lib.hid (BW.out.grown hg1 BW.out.size (fun k hk => by cases hk; exact Nat.le_refl _))
      have hgv := hg.go (w' := w1) (S' := S) (fun b hb => B1.out.block b (HS.out b hb)) (fun _ h => h)
      have hop := fun w' => (hgv.noEmpty w').1
      have hop2 := fun X Y w' => guard_empty .eql 20 X Y v hgv.form w'
      have I := Lib.hid (hcall w1 hgv (fun b hb => Nat.lt_of_lt_of_le (HS.out b hb) B1.out.size))
      have HR1 := Lib.hid hrg1; have HSV := Lib.hid hsv; have HLS := Lib.hid hls
      clear hcall hg hgv hrg1 hg1 hs1 hsv hls
      go_wp2_with (simp only [hop, hop2])
      refine I.out.mono ?_
      rintro e w2 ⟨rfl, hb2⟩
      have HR2 := Lib.hid (HR1.out.same (w' := w2) (hb2.block _ HR1.out.mapAt.lt) (hb2.block _ HR1.out.ltr))
      have B2 := Lib.hid (B1.out.trans (hb2.mono B1.out.size))
      have hst := HR2.out.mapAt.store_same (P := Tryz.prog) (T := 61) (K := 9) (E := 20) Tryz.underlying61 Tryz.underlying9 HSV.out
      clear hb2 hop hop2 I hen
      go_wp2_with fail
      go_roundw
      case rel => exact ⟨_, HR2.out, B2.out⟩
      case measure => rw [HR2.out.n, HR.out.n]; have h := cnt_next HLS.out HSV.out; simp only [ne_eq, decide_not] at h; exact h

/-- Of a value of the package nothing is taken. -/
theorem deleteEmpty_clean (n : Nat) : ∀ (j : J) (v : Value) (w : World) (S : Nat → Prop), SizeOf.sizeOf j ≤ n → JOK j → GR w S j.g v → (∀ b, S b → b < w.heap.size) → Calls Tryz.prog 52 #[v] w fun e w' => e = .returned v ∧ Below w.heap.size w w' := by
  induction n with
  | zero => intro j v w S hn; cases j <;> simp at hn
  | succ n ih =>
    intro j v w S hn hok hG hS
    have leaf : ∀ t u, (t = 4 ∨ t = 3 ∨ t = 57 ∨ t = 9) → v = .iface t u → Calls Tryz.prog 52 #[v] w fun e w' => e = .returned v ∧ Below w.heap.size w w' := by
      intro t u ht hv
      subst hv
      clear hG ih hok hn hS
      rcases ht with rfl | rfl | rfl | rfl
      all_goals
        go_enter Tryz.func52, Tryz.ntmps52
        go_wp2_with fail
        go_ret
        exact ⟨rfl, Below.refl _ _⟩
    cases j with
    | null =>
      have h := hG.head
      rw [J.g] at h
      obtain rfl : v = .nilIface := h
      clear hG ih hok hn hS leaf
      go_enter Tryz.func52, Tryz.ntmps52
      go_wp2_with fail
      go_ret
      exact ⟨rfl, Below.refl _ _⟩
    | bool b => have h := hG.head; rw [J.g] at h; exact leaf _ _ (by simp) h
    | num x =>
      have h := hG.head
      rw [J.g] at h
      split at h
      · exact leaf _ _ (by simp) h
      · exact leaf _ _ (by simp) h
    | str s => have h := hG.head; rw [J.g] at h; exact leaf _ _ (by simp) h
    | arr l =>
      obtain ⟨a, rfl, hel⟩ := hG.arrU
      have hl : l.length ≤ 400 := by rw [JOK] at hok; exact hok.2.2.1
      exact deleteEmpty_arr hl hS hel fun i hi x w' hx hS' => ih l[i] x w' S (by have := sizeOf_list (.arr l) (i := i) hi; simp only [J.list] at this; omega) (hok.list (i := i) hi) hx hS'
    | obj m =>
      obtain ⟨b, mv, rfl, hb, hM, hk, hlen, he⟩ := hG.objU
      refine deleteEmpty_map hS hM hb fun s v hsv => ?_
      obtain ⟨i, hi, e⟩ := List.getElem_of_mem hsv
      have hi' : i < m.length := by omega
      obtain ⟨e1, e2⟩ := he i hi' hi
      rw [e] at e1 e2
      exact ⟨m[i].2, e2, fun w' hx hS' => ih m[i].2 v w' S (by have := sizeOf_ents (.obj m) (i := i) hi'; simp only [J.ents] at this; omega) (hok.ents (i := i) hi') hx hS'⟩
end Go.Proofs.YtnaijgdffbfapaaGreatDoor

namespace Go.Proofs.YtnaijgdffbfapaaGreatDoor
open Go.RowKit

theorem empty_neq (w : World) : (binOp .neq 20 (.iface 102 (.agg #[])) (.iface 102 (.agg #[]))).run Tryz.prog w = .ok (.bool false) w := by kernel_rfl
theorem empty_eql (w : World) : (binOp .eql 20 (.iface 102 (.agg #[])) (.iface 102 (.agg #[]))).run Tryz.prog w = .ok (.bool true) w := by kernel_rfl
theorem getElem?_eraseIdx_lt {α : Type} {l : List α} {i t : Nat} (h : t < i) : (l.eraseIdx i)[t]? = l[t]? := by rw [List.getElem?_eraseIdx]; simp [h]
theorem getElem?_eraseIdx_ge {α : Type} {l : List α} {i t : Nat} (h : i ≤ t) : (l.eraseIdx i)[t]? = l[t + 1]? := by rw [List.getElem?_eraseIdx]; simp [show ¬ t < i by omega]

/-- The row in the midst of its closing up: k have been looked at, j are kept. -/
structure Closing (xs : List Value) (i k j : Nat) (ys : List Value) : Prop where
  len : ys.length = xs.length
  pl : (k ≤ i ∧ j = k) ∨ (i < k ∧ j + 1 = k)
  done : ∀ t, t < j → ys[t]? = (xs.eraseIdx i)[t]?
  rest : ∀ t, k ≤ t → ys[t]? = xs[t]?
theorem Closing.skip {xs ys : List Value} {i j : Nat} (h : Closing xs i i j ys) : Closing xs i (i + 1) j ys := by
  have hj := h.pl
  exact ⟨h.len, Or.inr ⟨by omega, by omega⟩, h.done, fun t ht => h.rest t (by omega)⟩
theorem Closing.keep {xs ys : List Value} {i k j : Nat} {x : Value} (h : Closing xs i k j ys) (hk : k < xs.length) (hne : k ≠ i) (hx : xs[k]? = some x) : Closing xs i (k + 1) (j + 1) (ys.set j x) := by
  have hj := h.pl
  have hl := h.len
  refine ⟨by simpa using hl, by omega, fun t ht => ?_, fun t ht => ?_⟩
  · rw [List.getElem?_set]
    by_cases e : j = t
    · subst e
      simp only [if_true]
      rw [if_pos (by omega)]
      rcases hj with ⟨h1, rfl⟩ | ⟨h1, h2⟩
      · rw [getElem?_eraseIdx_lt (by omega), hx]
      · rw [getElem?_eraseIdx_ge (by omega), h2, hx]
    · rw [if_neg e]
      exact h.done t (by omega)
  · rw [List.getElem?_set, if_neg (by omega)]
    exact h.rest t (by omega)

set_option maxRecDepth 100000 in
theorem deleteEmpty_arrDrop {S : Nat → Prop} {lo hi N i : Nat} {l : List J} {xs : List Value} {w : World} (hok : JOK (.arr l)) (hS : ∀ b, S b → b < lo) (hlo : lo ≤ N) (hhi : N < hi) (hA : Arr w N 20 xs) (hl : xs.length = l.length) (hil : i < l.length) (hx : xs[i]? = some emptyV)
    (hel : ∀ (k : Nat) (jy : J), k ≠ i → l[k]? = some jy → ∃ y, xs[k]? = some y ∧ GR w S jy.g y) :
    Calls Tryz.prog 52 #[.iface 58 (.slice (some ⟨N, 0, none⟩) l.length l.length)] w fun e w' => ∃ v', e = .returned v' ∧ JR w' (fun b => S b ∨ (lo ≤ b ∧ b < hi)) (.arr (l.eraseIdx i)) v' ∧ Inside lo hi w w' := by
  have h400 : l.length ≤ 400 := by rw [JOK] at hok; exact hok.2.2.1
  have HE := Lib.hid hel; have HS := Lib.hid hS; have HX := Lib.hid hx; have HOK := Lib.hid hok; have HL := Lib.hid hl
  have HA0 := Lib.hid hA
  have hN : N < w.heap.size := hA.lt
  clear hel hS hx hok hA hl
  go_enter Tryz.func52, Tryz.ntmps52
  go_wp2_with fail
  go_loopw [8, 45] (fun u z wr => ∃ (k j : Nat) (ys : List Value), u = .int .i64 j ∧ z = .int .i64 k ∧ k ≤ l.length ∧ Closing xs i k j ys ∧ Arr wr N 20 ys ∧ Inside lo hi w wr) (fun _ z _ => l.length - (intOf z).toNat)
  case atStart => exact ⟨0, 0, xs, rfl, rfl, Nat.zero_le _, ⟨rfl, Or.inl ⟨Nat.zero_le _, rfl⟩, fun t ht => by omega, fun t _ => rfl⟩, HA0.out, Inside.refl _ _ _⟩
  case round =>
    obtain ⟨k, j, ys, rfl, rfl, hk, hC, hA, hI⟩ := hrel
    have CL := Lib.hid hC; have HA := Lib.hid hA; have IN := Lib.hid hI
    have hjk : j ≤ k := by have := hC.pl; omega
    clear hC hA hI
    by_cases hlt : k < l.length
    · have hyl : ys.length = l.length := CL.out.len.trans HL.out
      by_cases hki : k = i
      · subst hki
        have hc : wr.cell? ⟨N, k, none⟩ = some (.iface 102 (.agg #[])) := by
          have h1 := HA.out.cell (i := k) (by omega)
          rw [h1]
          have h2 := (CL.out.rest k (Nat.le_refl _)).trans HX.out
          rw [List.getElem?_eq_getElem (by omega)] at h2
          exact h2
        have C2 := Lib.hid CL.out.skip
        clear hyl
        go_wp2_with (simp only [empty_neq])
        go_roundw
        case rel => exact ⟨k + 1, j, ys, rfl, by go_num, by omega, C2.out, HA.out, IN.out⟩
        case measure => simp [intOf]; omega
      · obtain ⟨x, hxk, hg⟩ := HE.out k l[k] hki (List.getElem?_eq_getElem hlt)
        have hc : wr.cell? ⟨N, k, none⟩ = some x := by
          have h1 := HA.out.cell (i := k) (by omega)
          rw [h1]
          have h2 := (CL.out.rest k (Nat.le_refl _)).trans hxk
          rw [List.getElem?_eq_getElem (by omega)] at h2
          exact h2
        have hltS : ∀ b, S b → b < w.heap.size := fun b hb => Nat.lt_trans (Nat.lt_of_lt_of_le (HS.out b hb) hlo) hN
        have hg1 := hg.go (w' := wr) (S' := S) (fun b hb => IN.out.block b (hltS b hb) (by have := HS.out b hb; omega)) (fun _ h => h)
        have hop := fun w' => (hg1.noEmpty w').2
        have hop2 := fun X Y w' => guard_empty .neq 20 X Y x hg1.form w'
        have I := Lib.hid (deleteEmpty_clean _ l[k] x wr S (Nat.le_refl _) (HOK.out.list (i := k) hlt) hg1 (fun b hb => Nat.lt_of_lt_of_le (hltS b hb) IN.out.size))
        have form := hg.form
        have C2 := Lib.hid (CL.out.keep (by rw [HL.out]; exact hlt) hki hxk)
        have HYL := Lib.hid hyl
        clear hg hg1 hltS hxk hyl
        go_wp2_with (simp only [hop, hop2])
        refine I.out.mono ?_
        rintro e w2 ⟨rfl, hb2⟩
        have A2 := Lib.hid (HA.out.below hb2 HA.out.lt)
        have I2 := Lib.hid (IN.out.trans (Inside.of_below hb2))
        have c2 := A2.out.cell (i := j) (by rw [HYL.out]; omega)
        have f2 := A2.out.fr j
        clear hop hop2 I hb2 hc
        have hjl : j < l.length := by omega
        rcases form with rfl | ⟨t', u, rfl⟩
        all_goals
          go_wp2_with fail
          go_roundw
          case rel => exact ⟨k + 1, j + 1, _, by go_num, by go_num, by omega, C2.out, A2.out.set j _, I2.out.setCell hlo hhi _⟩
          case measure => simp [intOf]; omega
    · obtain rfl : k = l.length := by omega
      have hj1 : j + 1 = l.length := by have := CL.out.pl; omega
      have hjl : j < l.length := by omega
      have DN := Lib.hid CL.out.done
      have HYL := Lib.hid (CL.out.len.trans HL.out)
      have HJ := Lib.hid hj1
      clear hj1 CL
      go_wp2_with fail
      go_loopw [11] (fun z wr => ∃ (t : Nat) (zs : List Value), z = .int .i64 t ∧ j ≤ t ∧ t ≤ l.length ∧ zs.length = l.length ∧ (∀ u, u < j → zs[u]? = (xs.eraseIdx i)[u]?) ∧ Arr wr N 20 zs ∧ Inside lo hi w wr) (fun z _ => l.length - (intOf z).toNat)
      case atStart => exact ⟨j, ys, rfl, Nat.le_refl _, by omega, HYL.out, DN.out, HA.out, IN.out⟩
      case round =>
        obtain ⟨t, zs, rfl, ht1, ht2, hzl, hzd, hA, hI⟩ := hrel
        have ZL := Lib.hid hzl; have ZD := Lib.hid hzd; have HA2 := Lib.hid hA; have IN2 := Lib.hid hI
        clear hzl hzd hA hI
        by_cases htl : t < l.length
        · have c2 := HA2.out.cell (i := t) (by rw [ZL.out]; exact htl)
          have f2 := HA2.out.fr t
          go_wp2_with fail
          go_roundw
          case rel => exact ⟨t + 1, _, by go_num, by omega, by omega, by rw [List.length_set]; exact ZL.out, fun u hu => by rw [List.getElem?_set, if_neg (by omega)]; exact ZD.out u hu, HA2.out.set t _, IN2.out.setCell hlo hhi _⟩
          case measure => simp [intOf]; omega
        · go_wp2_with fail
          go_ret
          have hlen : (l.eraseIdx i).length = j := by rw [List.length_eraseIdx]; have := HJ.out; split <;> omega
          refine ⟨_, rfl, ?_, IN2.out⟩
          rw [← hlen]
          refine JR.of_arr fun u hu => ?_
          have hu' : u < j := by omega
          have hz := ZD.out u hu'
          have huz : u < zs.length := by rw [ZL.out]; omega
          have hlx : xs.length = l.length := HL.out
          have e1 : ∃ k, k ≠ i ∧ (xs.eraseIdx i)[u]? = xs[k]? ∧ (l.eraseIdx i)[u]? = l[k]? := by
            rcases Nat.lt_or_ge u i with h | h
            · exact ⟨u, by omega, getElem?_eraseIdx_lt h, getElem?_eraseIdx_lt h⟩
            · exact ⟨u + 1, by omega, getElem?_eraseIdx_ge h, getElem?_eraseIdx_ge h⟩
          obtain ⟨k, hki, e1, e2⟩ := e1
          rw [List.getElem?_eq_getElem hu] at e2
          obtain ⟨y, hy, hg⟩ := HE.out k _ hki e2.symm
          rw [e1, hy, List.getElem?_eq_getElem huz] at hz
          have hz := Option.some.inj hz
          have hltS : ∀ b, S b → b < w.heap.size := fun b hb => Nat.lt_trans (Nat.lt_of_lt_of_le (HS.out b hb) hlo) hN
          refine ⟨N, 0, y, rfl, Or.inr ⟨hlo, hhi⟩, ?_, ?_, ?_⟩
          · have := HA2.out.cell huz
            rw [hz] at this
            simpa using this
          · simpa using HA2.out.fr u
          · exact ((GR.jr _ (Nat.le_refl _) hg).go (fun b hb => IN2.out.block b (hltS b hb) (by have := HS.out b hb; omega)) (fun b hb => Or.inl hb))

theorem UR.kinds {w : World} {S : Nat → Prop} {lo hi : Nat} {q : List Stp} {j : J} {v : Value} (hq : q ≠ []) (h : UR w S lo q hi j v) : ∃ t u, v = .iface t u ∧ (t = 4 ∨ t = 3 ∨ t = 57 ∨ t = 9 ∨ t = 58 ∨ t = 61) := by
  cases q with
  | nil => exact absurd rfl hq
  | cons st q =>
    cases st with
    | idx i =>
      cases j with
      | arr l => obtain ⟨N, xs, jx, x, h1, _⟩ := h; exact ⟨_, _, h1, by simp⟩
      | _ => exact h.elim
    | key s =>
      cases j with
      | obj m => obtain ⟨N, mv, jx, x, h1, _⟩ := h; exact ⟨_, _, h1, by simp⟩
      | _ => exact h.elim

/-- What deleteEmpty leaves of a value with a hole. -/
def HolePost (S : Nat → Prop) (lo hi : Nat) (j' : J) (w : World) (e : Ending) (w' : World) : Prop := ∃ v', e = .returned v' ∧ JR w' (fun b => S b ∨ (lo ≤ b ∧ b < hi)) j' v' ∧ Inside lo hi w w'

/-- The row in the midst of the walk: k have been looked at. -/
def Deep (S : Nat → Prop) (lo N i : Nat) (xs : List Value) (q : List Stp) (jx : J) (x : Value) (k : Nat) (wr : World) : Prop :=
  ∃ ys, Arr wr N 20 ys ∧ ys.length = xs.length ∧ (∀ t, t ≠ i → ys[t]? = xs[t]?) ∧ ((k ≤ i ∧ ys[i]? = some x ∧ UR wr S lo q N jx x) ∨ (i < k ∧ ∃ x', ys[i]? = some x' ∧ JR wr (fun b => S b ∨ (lo ≤ b ∧ b < N)) (delJ q jx) x'))
theorem Deep.next {S : Nat → Prop} {lo N i : Nat} {xs : List Value} {q : List Stp} {jx : J} {x : Value} {k : Nat} {wr w2 : World} (h : Deep S lo N i xs q jx x k wr) (hki : k ≠ i) (hb : Below wr.heap.size wr w2) (hS : ∀ b, S b → b < wr.heap.size) : Deep S lo N i xs q jx x (k + 1) w2 := by
  obtain ⟨ys, h1, h2, h3, h4⟩ := h
  have hN := h1.lt
  refine ⟨ys, h1.below hb hN, h2, h3, ?_⟩
  rcases h4 with ⟨a, b, c⟩ | ⟨a, x', b, c⟩
  · exact Or.inl ⟨by omega, b, c.go (fun b hb' => hb.block b (hS b hb')) _ (fun b _ hb' => hb.block b (by omega)) (Nat.le_refl _)⟩
  · exact Or.inr ⟨by omega, x', b, c.go (fun b hb' => hb.block b (by rcases hb' with h | h; exact hS b h; omega)) (fun _ h => h)⟩

set_option maxRecDepth 100000 in
theorem deleteEmpty_arrDeep {S : Nat → Prop} {lo hi N i : Nat} {l : List J} {xs : List Value} {q : List Stp} {jx : J} {x : Value} {w : World} (hq : q ≠ []) (hok : JOK (.arr l)) (hS : ∀ b, S b → b < lo) (hlo : lo ≤ N) (hhi : N < hi) (hA : Arr w N 20 xs) (hl : xs.length = l.length) (hj : l[i]? = some jx) (hx : xs[i]? = some x)
    (hU : UR w S lo q N jx x) (hel : ∀ (k : Nat) (jy : J), k ≠ i → l[k]? = some jy → ∃ y, xs[k]? = some y ∧ GR w S jy.g y)
    (ih : ∀ w', UR w' S lo q N jx x → N ≤ w'.heap.size → Calls Tryz.prog 52 #[x] w' (HolePost S lo N (delJ q jx) w')) :
    Calls Tryz.prog 52 #[.iface 58 (.slice (some ⟨N, 0, none⟩) l.length l.length)] w (HolePost S lo hi (.arr (l.modify i (delJ q))) w) := by
  have h400 : l.length ≤ 400 := by rw [JOK] at hok; exact hok.2.2.1
  have HE := Lib.hid hel; have HS := Lib.hid hS; have HX := Lib.hid hx; have HOK := Lib.hid hok; have HL := Lib.hid hl; have HJ := Lib.hid hj; have IH := Lib.hid ih
  have HU := Lib.hid hU
  have HA0 := Lib.hid hA
  have hN : N < w.heap.size := hA.lt
  have hil : i < l.length := by
    rcases Nat.lt_or_ge i l.length with h | h
    · exact h
    · rw [List.getElem?_eq_none h] at hj; cases hj
  have hltS : ∀ b, S b → b < w.heap.size := fun b hb => Nat.lt_trans (Nat.lt_of_lt_of_le (hS b hb) hlo) hN
  have LTS := Lib.hid hltS
  clear hel hS hx hok hA hl hj ih hU hltS
  unfold HolePost
  go_enter Tryz.func52, Tryz.ntmps52
  go_wp2_with fail
  go_loopw [8, 45] (fun u z wr => ∃ k : Nat, u = .int .i64 k ∧ z = .int .i64 k ∧ k ≤ l.length ∧ Deep S lo N i xs q jx x k wr ∧ Inside lo hi w wr) (fun _ z _ => l.length - (intOf z).toNat)
  case atStart => exact ⟨0, rfl, rfl, Nat.zero_le _, ⟨xs, HA0.out, rfl, fun _ _ => rfl, Or.inl ⟨Nat.zero_le _, HX.out, HU.out⟩⟩, Inside.refl _ _ _⟩
  case round =>
    obtain ⟨k, rfl, rfl, hk, hD, hI⟩ := hrel
    have DP := Lib.hid hD; have IN := Lib.hid hI
    clear hD hI
    by_cases hlt : k < l.length
    · obtain ⟨ys, hA, hyl, hyo, hyi⟩ := DP.out
      have hyl' : ys.length = l.length := hyl.trans HL.out
      have HA := Lib.hid hA; have HYL := Lib.hid hyl'; have HYO := Lib.hid hyo; have HYI := Lib.hid hyi
      clear hA hyl hyl' hyo hyi
      have hSr : ∀ b, S b → b < wr.heap.size := fun b hb => Nat.lt_of_lt_of_le (LTS.out b hb) IN.out.size
      have SR := Lib.hid hSr
      clear hSr
      by_cases hki : k = i
      · subst hki
        obtain ⟨hxi, hU⟩ : ys[k]? = some x ∧ UR wr S lo q N jx x := by
          rcases HYI.out with ⟨_, b, c⟩ | ⟨a, _⟩
          · exact ⟨b, c⟩
          · omega
        have hc : wr.cell? ⟨N, k, none⟩ = some x := by
          have h1 := HA.out.cell (i := k) (by rw [HYL.out]; exact hlt)
          rw [h1]
          rw [List.getElem?_eq_getElem (by rw [HYL.out]; exact hlt)] at hxi
          exact hxi
        obtain ⟨t, u, rfl, ht⟩ := hU.kinds hq
        have hop := fun w' => neq_empty t u w' ht
        have I := Lib.hid (IH.out wr hU (Nat.le_of_lt HA.out.lt))
        unfold HolePost at I
        clear hU hxi
        go_wp2_with (simp only [hop])
        refine I.out.mono ?_
        rintro e w2 ⟨x', rfl, hJ, hIn⟩
        have A2 := Lib.hid (HA.out.same (w' := w2) (hIn.block N HA.out.lt (by omega)))
        have I2 := Lib.hid (IN.out.trans (hIn.wider (by omega)))
        have c2 := A2.out.cell (i := k) (by rw [HYL.out]; exact hlt)
        have f2 := A2.out.fr k
        have form := hJ.form
        have JX := Lib.hid hJ
        clear hop I hc hJ hIn
        rcases form with rfl | ⟨t', u', rfl⟩
        all_goals
          go_wp2_with fail
          go_roundw
          case rel => exact ⟨k + 1, by go_num, by go_num, by omega, ⟨_, A2.out.set k _, by rw [List.length_set, HYL.out, HL.out], fun t ht => by rw [List.getElem?_set, if_neg (Ne.symm ht)]; exact HYO.out t ht, Or.inr ⟨by omega, _, by rw [List.getElem?_set_self (by rw [HYL.out]; exact hlt)],
            JX.out.go (fun b hb => Below.heap_setCell _ _ _ _ (fun e => by have e' : b = N := e; rcases hb with h | h; (have := HS.out b h; omega); omega)) (fun _ h => h)⟩⟩, I2.out.setCell hlo hhi _⟩
          case measure => simp [intOf]; omega
      · obtain ⟨y, hyk, hg⟩ := HE.out k l[k] hki (List.getElem?_eq_getElem hlt)
        have hc : wr.cell? ⟨N, k, none⟩ = some y := by
          have h1 := HA.out.cell (i := k) (by rw [HYL.out]; exact hlt)
          rw [h1]
          have h2 := (HYO.out k hki).trans hyk
          rw [List.getElem?_eq_getElem (by rw [HYL.out]; exact hlt)] at h2
          exact h2
        have hg1 := hg.go (w' := wr) (S' := S) (fun b hb => IN.out.block b (LTS.out b hb) (by have := HS.out b hb; omega)) (fun _ h => h)
        have hop := fun w' => (hg1.noEmpty w').2
        have hop2 := fun X Y w' => guard_empty .neq 20 X Y y hg1.form w'
        have I := Lib.hid (deleteEmpty_clean _ l[k] y wr S (Nat.le_refl _) (HOK.out.list (i := k) hlt) hg1 SR.out)
        have form := hg.form
        have HC := Lib.hid hc
        clear hg hg1 hyk
        go_wp2_with (simp only [hop, hop2])
        refine I.out.mono ?_
        rintro e w2 ⟨rfl, hb2⟩
        have D2 := Lib.hid (DP.out.next hki hb2 SR.out)
        have I2 := Lib.hid (IN.out.trans (Inside.of_below hb2))
        have A2 := Lib.hid (HA.out.below hb2 HA.out.lt)
        have c2 := (hb2.cell (p := ⟨N, k, none⟩) HA.out.lt).trans HC.out
        have f2 := A2.out.fr k
        have SS := Lib.hid (setCell_self c2)
        clear hop hop2 I hb2 hc
        rcases form with rfl | ⟨t', u, rfl⟩
        all_goals
          go_wp2_with fail
          go_roundw
          case rel => exact ⟨k + 1, by go_num, by go_num, by omega, by rw [SS.out]; exact D2.out, by rw [SS.out]; exact I2.out⟩
          case measure => simp [intOf]; omega
    · obtain rfl : k = l.length := by omega
      go_wp2_with fail
      go_loopw [11] (fun z wr => z = .int .i64 l.length ∧ Deep S lo N i xs q jx x l.length wr ∧ Inside lo hi w wr) (fun _ _ => 0)
      case atStart => exact ⟨rfl, DP.out, IN.out⟩
      case round =>
        obtain ⟨rfl, hD, hI⟩ := hrel
        have D2 := Lib.hid hD; have I2 := Lib.hid hI
        clear hD hI DP IN
        go_wp2_with fail
        go_ret
        obtain ⟨ys, hA, hyl, hyo, hyi⟩ := D2.out
        obtain ⟨x', hx', hJ⟩ : ∃ x', ys[i]? = some x' ∧ JR wr (fun b => S b ∨ (lo ≤ b ∧ b < N)) (delJ q jx) x' := by
          rcases hyi with ⟨a, _⟩ | ⟨_, h⟩
          · omega
          · exact h
        have hlen : (l.modify i (delJ q)).length = l.length := by simp
        refine ⟨_, rfl, ?_, I2.out⟩
        rw [← hlen]
        refine JR.of_arr fun u hu => ?_
        have hu' : u < l.length := by omega
        have huz : u < ys.length := by rw [hyl, HL.out]; exact hu'
        refine ⟨N, 0, ys[u], rfl, Or.inr ⟨hlo, hhi⟩, by simpa using hA.cell huz, by simpa using hA.fr u, ?_⟩
        rw [List.getElem_modify]
        by_cases hui : i = u
        · subst hui
          rw [List.getElem?_eq_getElem huz] at hx'
          have e1 := Option.some.inj hx'
          have e2 : l[i] = jx := by have := HJ.out; rw [List.getElem?_eq_getElem hu'] at this; exact Option.some.inj this
          simp only [if_true]
          rw [e1, e2]
          exact hJ.mono (fun b hb => hb.imp id (fun h => ⟨h.1, by omega⟩))
        · simp only [hui, if_false]
          obtain ⟨y, hy, hg⟩ := HE.out u l[u] (Ne.symm hui) (List.getElem?_eq_getElem hu')
          have h2 := (hyo u (Ne.symm hui)).trans hy
          rw [List.getElem?_eq_getElem huz] at h2
          rw [Option.some.inj h2]
          exact ((GR.jr _ (Nat.le_refl _) hg).go (fun b hb => I2.out.block b (LTS.out b hb) (by have := HS.out b hb; omega)) (fun b hb => Or.inl hb))

theorem ranges_below {w w' : World} {b r : Nat} {m : List (ByteArray × Value)} {left : ByteArray → Bool} (h : Ranges w b r m left) (hb : Below w.heap.size w w') : Ranges w' b r m left := h.same (hb.block _ h.mapAt.lt) (hb.block _ h.ltr)

set_option maxRecDepth 100000 in
theorem deleteEmpty_mapDrop {S : Nat → Prop} {lo hi N : Nat} {s : ByteArray} {m : List (ByteArray × J)} {mv : List (ByteArray × Value)} {w : World} (hok : JOK (.obj m)) (hS : ∀ b, S b → b < lo) (hlo : lo ≤ N) (hhi : N < hi) (hM : MapAt w N mv) (hp : (mv.map (·.1)).Perm (m.map (·.1))) (hx : (s, emptyV) ∈ mv)
    (hel : ∀ q ∈ m, q.1 ≠ s → ∃ y, (q.1, y) ∈ mv ∧ GR w S q.2.g y) :
    Calls Tryz.prog 52 #[.iface 61 (.map (some N))] w (HolePost S lo hi (.obj (m.filter fun x => decide (x.1 ≠ s))) w) := by
  have hN : N < w.heap.size := hM.lt
  have hnd : (mv.map (·.1)).Nodup := by obtain ⟨_, _, _, _, _, h⟩ := hM; exact h
  have LTS : Hid (∀ b, S b → b < w.heap.size) := Lib.hid fun b hb => Nat.lt_trans (Nat.lt_of_lt_of_le (hS b hb) hlo) hN
  have one : ∀ (k : ByteArray) (x y : Value), (k, x) ∈ mv → (k, y) ∈ mv → x = y := fun k x y h1 h2 => by
    obtain ⟨i, hi, e1⟩ := List.getElem_of_mem h1
    obtain ⟨j, hj, e2⟩ := List.getElem_of_mem h2
    have : i = j := (List.getElem_inj (h₀ := by simpa using hi) (h₁ := by simpa using hj) hnd).1 (by simp [e1, e2])
    subst this
    rw [e1] at e2
    exact (Prod.mk.inj e2).2
  -- every entry but the one at s is a value of the package
  have ent : ∀ k v, (k, v) ∈ mv → k ≠ s → ∃ j, JOK j ∧ GR w S j.g v := fun k v hkv hks => by
    have hk : k ∈ m.map (·.1) := hp.mem_iff.1 (List.mem_map.2 ⟨_, hkv, rfl⟩)
    obtain ⟨q, hq, rfl⟩ := List.mem_map.1 hk
    obtain ⟨y, h1, h2⟩ := hel q hq hks
    rw [one _ _ _ hkv h1]
    exact ⟨q.2, (hok.obj_mem.2 _ hq).2, h2⟩
  have ENT := Lib.hid ent; have ONE := Lib.hid one
  have HE := Lib.hid hel; have HS := Lib.hid hS; have HM := Lib.hid hM; have HX := Lib.hid hx; have HP := Lib.hid hp; have HND := Lib.hid hnd
  have HNE : Hid (N ≠ w.heap.size) := Lib.hid (by omega)
  clear hel hS hM hx hok hp ent one hnd
  unfold HolePost
  go_enter Tryz.func52, Tryz.ntmps52
  go_wp2_with (first
    | (at_range; refine wpList_range_R rfl _ 61 rfl 9 20 Tryz.underlying61 N mv rfl HM.out ?_; intro o' hrg)
    | go_in)
  go_frame
  have HRG := Lib.hid hrg
  clear hrg
  go_loopw [5] (fun _ wr => ∃ left mv', Ranges wr N w.heap.size mv' left ∧ ((left s = true ∧ mv' = mv) ∨ (left s = false ∧ mv' = mv.filter fun x => decide (x.1 ≠ s))) ∧ Inside lo hi w wr) (fun _ wr => rangeN wr N w.heap.size)
  case atStart => exact ⟨_, mv, HRG.out, Or.inl ⟨rfl, rfl⟩, Inside.of_below ((Below.refl _ _).alloc (Nat.le_refl _) _)⟩
  case round =>
    obtain ⟨left, mv', hrg, hst, hin⟩ := hrel
    have HR := Lib.hid hrg; have IN := Lib.hid hin; have ST := Lib.hid hst
    clear hrg hin HRG hst
    go_wp2_with (first
      | (at_next; refine wpList_next_R rfl _ rfl N w.heap.size mv' left HNE.out rfl HR.out ?_ ?_)
      | go_in)
    · intro hall
      have hfin : mv' = mv.filter fun x => decide (x.1 ≠ s) := by
        rcases ST.out with ⟨h1, rfl⟩ | ⟨_, h⟩
        · have := hall _ _ HX.out
          rw [h1] at this; cases this
        · exact h
      have HF := Lib.hid hfin
      clear hall hfin
      go_wp2_with fail
      go_ret
      refine ⟨_, rfl, ?_, IN.out⟩
      have hM := HR.out.mapAt
      rw [HF.out] at hM
      refine JR.of_obj (Or.inr ⟨hlo, hhi⟩) hM ?_ fun i hi => ?_
      · have e1 : ∀ {β : Type} (l : List (ByteArray × β)), (l.filter fun x => decide (x.1 ≠ s)).map (·.1) = (l.map (·.1)).filter fun z => decide (z ≠ s) := fun l => by rw [List.filter_map]; rfl
        rw [e1, e1]
        exact HP.out.filter _
      · have hmem := List.getElem_mem hi
        obtain ⟨h1, h2⟩ := List.mem_filter.1 hmem
        have h3 : ((m.filter fun x => decide (x.1 ≠ s))[i]).1 ≠ s := by simpa using h2
        obtain ⟨y, hy, hg⟩ := HE.out _ h1 h3
        refine ⟨y, List.mem_filter.2 ⟨hy, by simpa using h3⟩, ?_⟩
        exact ((GR.jr _ (Nat.le_refl _) hg).go (fun b hb => IN.out.block b (LTS.out b hb) (by have := HS.out b hb; omega)) (fun b hb => Or.inl hb))
    · intro k v w1 hkv hlk hrg1 hg1 hs1 hen
      have I1 := Lib.hid (IN.out.grown hg1 (Or.inr (Nat.le_refl _)))
      have HR1 := Lib.hid hrg1; have HLK := Lib.hid hlk; have HKV := Lib.hid hkv
      have hkmv : (k, v) ∈ mv := by
        rcases ST.out with ⟨_, rfl⟩ | ⟨_, rfl⟩
        · exact hkv
        · exact (List.mem_filter.1 hkv).1
      by_cases hks : k = s
      · subst hks
        have hv : v = emptyV := ONE.out _ _ _ hkmv HX.out
        have hst2 : mv' = mv := by
          rcases ST.out with ⟨_, h⟩ | ⟨h, _⟩
          · exact h
          · rw [hlk] at h; cases h
        unfold emptyV at hv
        subst hv
        obtain ⟨w2, hrun, hrg2, hg2, hs2⟩ := hrg1.drop (P := Tryz.prog) (T := 61) (K := 9) (E := 20) HNE.out Tryz.underlying61 Tryz.underlying9 hkv 9
        have I2 := Lib.hid (I1.out.grown hg2 (Or.inl ⟨hlo, hhi⟩))
        have HR2 := Lib.hid hrg2
        have hm2 := Lib.hid (cnt_next hlk hkv)
        have hm3 := Lib.hid (cnt_drop mv' (fun p => decide (p.1 ≠ k)) (fun z => left z && decide (z ≠ k)))
        clear hrg1 hg1 hs1 hrg2 hg2 hs2 hkv hlk hkmv
        go_wp2_with (simp only [empty_eql])
        go_roundw
        case rel => exact ⟨_, _, HR2.out, Or.inr ⟨by simp, by rw [hst2]⟩, I2.out⟩
        case measure => rw [HR2.out.n, HR.out.n]; have h2 := hm2.out; have h3 := hm3.out; simp only [ne_eq, decide_not] at h2 h3 ⊢; omega
      · obtain ⟨j, hj, hg⟩ := ENT.out k v hkmv hks
        have hgv := hg.go (w' := w1) (S' := S) (fun b hb => I1.out.block b (LTS.out b hb) (by have := HS.out b hb; omega)) (fun _ h => h)
        have hop := fun w' => (hgv.noEmpty w').1
        have hop2 := fun X Y w' => guard_empty .eql 20 X Y v hgv.form w'
        have I := Lib.hid (deleteEmpty_clean _ j v w1 S (Nat.le_refl _) hj hgv (fun b hb => Nat.lt_of_lt_of_le (LTS.out b hb) I1.out.size))
        have HKS := Lib.hid hks
        clear hg hgv hrg1 hg1 hs1 hkv hlk hkmv hj hks
        go_wp2_with (simp only [hop, hop2])
        refine I.out.mono ?_
        rintro e w2 ⟨rfl, hb2⟩
        have HR2 := Lib.hid (ranges_below HR1.out hb2)
        have I2 := Lib.hid (I1.out.trans (Inside.of_below hb2))
        have hst := HR2.out.mapAt.store_same (P := Tryz.prog) (T := 61) (K := 9) (E := 20) Tryz.underlying61 Tryz.underlying9 HKV.out
        clear hb2 hop hop2 I hen
        go_wp2_with fail
        go_roundw
        case rel => exact ⟨_, _, HR2.out, by rcases ST.out with ⟨h1, h2⟩ | ⟨h1, h2⟩; exact Or.inl ⟨by simp [h1, Ne.symm HKS.out], h2⟩; exact Or.inr ⟨by simp [h1], h2⟩, I2.out⟩
        case measure => rw [HR2.out.n, HR.out.n]; have h := cnt_next HLK.out HKV.out; simp only [ne_eq, decide_not] at h; exact h

theorem setAt_mem {m : List (ByteArray × Value)} {s k : ByteArray} {v u : Value} (h : (k, u) ∈ m) (hks : k ≠ s) : (k, u) ∈ setAt m s v := List.mem_map.2 ⟨(k, u), h, by simp [hks]⟩
theorem setAt_self_mem {m : List (ByteArray × Value)} {s : ByteArray} {v u : Value} (h : (s, u) ∈ m) : (s, v) ∈ setAt m s v := List.mem_map.2 ⟨(s, u), h, by simp⟩

/-- What is known of the map in the midst of the walk. -/
def DeepM (S : Nat → Prop) (lo N : Nat) (s : ByteArray) (mv : List (ByteArray × Value)) (q : List Stp) (jx : J) (x : Value) (left : ByteArray → Bool) (mv' : List (ByteArray × Value)) (wr : World) : Prop :=
  (left s = true ∧ mv' = mv ∧ UR wr S lo q N jx x) ∨ (left s = false ∧ ∃ x', mv' = setAt mv s x' ∧ JR wr (fun b => S b ∨ (lo ≤ b ∧ b < N)) (delJ q jx) x')
theorem DeepM.go {S : Nat → Prop} {lo N : Nat} {s : ByteArray} {mv : List (ByteArray × Value)} {q : List Stp} {jx : J} {x : Value} {left left' : ByteArray → Bool} {mv' : List (ByteArray × Value)} {wr w2 : World} (h : DeepM S lo N s mv q jx x left mv' wr) (hl : left' s = left s)
    (hb : ∀ b, (S b ∨ (lo ≤ b ∧ b < N)) → w2.heap[b]? = wr.heap[b]?) : DeepM S lo N s mv q jx x left' mv' w2 := by
  rcases h with ⟨a, b, c⟩ | ⟨a, x', b, c⟩
  · exact Or.inl ⟨hl.trans a, b, c.go (fun b h => hb b (Or.inl h)) _ (fun b h1 h2 => hb b (Or.inr ⟨h1, h2⟩)) (Nat.le_refl _)⟩
  · exact Or.inr ⟨hl.trans a, x', b, c.go (fun b h => hb b h) (fun _ h => h)⟩

set_option maxRecDepth 100000 in
theorem deleteEmpty_mapDeep {S : Nat → Prop} {lo hi N : Nat} {s : ByteArray} {m : List (ByteArray × J)} {mv : List (ByteArray × Value)} {q : List Stp} {jx : J} {x : Value} {w : World} (hq : q ≠ []) (hok : JOK (.obj m)) (hS : ∀ b, S b → b < lo) (hlo : lo ≤ N) (hhi : N < hi) (hM : MapAt w N mv) (hp : (mv.map (·.1)).Perm (m.map (·.1)))
    (hj : (s, jx) ∈ m) (hx : (s, x) ∈ mv) (hU : UR w S lo q N jx x) (hel : ∀ q ∈ m, q.1 ≠ s → ∃ y, (q.1, y) ∈ mv ∧ GR w S q.2.g y)
    (ih : ∀ w', UR w' S lo q N jx x → N ≤ w'.heap.size → Calls Tryz.prog 52 #[x] w' (HolePost S lo N (delJ q jx) w')) :
    Calls Tryz.prog 52 #[.iface 61 (.map (some N))] w (HolePost S lo hi (.obj (m.map fun x => if x.1 = s then (x.1, delJ q x.2) else x)) w) := by
  have hN : N < w.heap.size := hM.lt
  have hnd : (mv.map (·.1)).Nodup := by obtain ⟨_, _, _, _, _, h⟩ := hM; exact h
  have LTS : Hid (∀ b, S b → b < w.heap.size) := Lib.hid fun b hb => Nat.lt_trans (Nat.lt_of_lt_of_le (hS b hb) hlo) hN
  have one : ∀ (k : ByteArray) (x y : Value), (k, x) ∈ mv → (k, y) ∈ mv → x = y := fun k x y h1 h2 => by
    obtain ⟨i, hi, e1⟩ := List.getElem_of_mem h1
    obtain ⟨j, hj, e2⟩ := List.getElem_of_mem h2
    have : i = j := (List.getElem_inj (h₀ := by simpa using hi) (h₁ := by simpa using hj) hnd).1 (by simp [e1, e2])
    subst this
    rw [e1] at e2
    exact (Prod.mk.inj e2).2
  have ent : ∀ k v, (k, v) ∈ mv → k ≠ s → ∃ j, JOK j ∧ GR w S j.g v := fun k v hkv hks => by
    have hk : k ∈ m.map (·.1) := hp.mem_iff.1 (List.mem_map.2 ⟨_, hkv, rfl⟩)
    obtain ⟨q, hq, rfl⟩ := List.mem_map.1 hk
    obtain ⟨y, h1, h2⟩ := hel q hq hks
    rw [one _ _ _ hkv h1]
    exact ⟨q.2, (hok.obj_mem.2 _ hq).2, h2⟩
  have hone : ∀ y, (s, y) ∈ m → y = jx := fun y hy => hok.obj_mem.1.one hy hj
  have ENT := Lib.hid ent; have ONE := Lib.hid one; have JONE := Lib.hid hone; have IH := Lib.hid ih; have HU := Lib.hid hU
  have HE := Lib.hid hel; have HS := Lib.hid hS; have HM := Lib.hid hM; have HX := Lib.hid hx; have HP := Lib.hid hp; have HND := Lib.hid hnd
  have HNE : Hid (N ≠ w.heap.size) := Lib.hid (by omega)
  clear hel hS hM hx hok hp ent one hnd hone ih hU hj
  unfold HolePost
  go_enter Tryz.func52, Tryz.ntmps52
  go_wp2_with (first
    | (at_range; refine wpList_range_R rfl _ 61 rfl 9 20 Tryz.underlying61 N mv rfl HM.out ?_; intro o' hrg)
    | go_in)
  go_frame
  have HRG := Lib.hid hrg
  clear hrg
  go_loopw [5] (fun _ wr => ∃ left mv', Ranges wr N w.heap.size mv' left ∧ DeepM S lo N s mv q jx x left mv' wr ∧ Inside lo hi w wr) (fun _ wr => rangeN wr N w.heap.size)
  case atStart => exact ⟨_, mv, HRG.out, Or.inl ⟨rfl, rfl, HU.out.go (fun b hb => Below.heap_alloc _ _ _ (LTS.out b hb)) _ (fun b _ hb => Below.heap_alloc _ _ _ (by omega)) (Nat.le_refl _)⟩, Inside.of_below ((Below.refl _ _).alloc (Nat.le_refl _) _)⟩
  case round =>
    obtain ⟨left, mv', hrg, hst, hin⟩ := hrel
    have HR := Lib.hid hrg; have IN := Lib.hid hin; have ST := Lib.hid hst
    clear hrg hin HRG hst
    go_wp2_with (first
      | (at_next; refine wpList_next_R rfl _ rfl N w.heap.size mv' left HNE.out rfl HR.out ?_ ?_)
      | go_in)
    · intro hall
      have hfin : ∃ x', mv' = setAt mv s x' ∧ JR wr (fun b => S b ∨ (lo ≤ b ∧ b < N)) (delJ q jx) x' := by
        rcases ST.out with ⟨h1, rfl, _⟩ | ⟨_, h⟩
        · have := hall _ _ HX.out
          rw [h1] at this; cases this
        · exact h
      have HF := Lib.hid hfin
      clear hall hfin
      go_wp2_with fail
      go_ret
      refine ⟨_, rfl, ?_, IN.out⟩
      obtain ⟨x', e', hJ⟩ := HF.out
      have hM := HR.out.mapAt
      rw [e'] at hM
      refine JR.of_obj (Or.inr ⟨hlo, hhi⟩) hM ?_ fun i hi => ?_
      · have e1 : (m.map fun x => if x.1 = s then (x.1, delJ q x.2) else x).map (·.1) = m.map (·.1) := by
          rw [List.map_map]
          refine List.map_congr_left fun p _ => ?_
          simp only [Function.comp_def]
          split <;> rfl
        rw [e1, setAt_keys]
        exact HP.out
      · have hi' : i < m.length := by simpa using hi
        simp only [List.getElem_map]
        by_cases hks : m[i].1 = s
        · simp only [hks, if_true]
          have e2 : m[i].2 = jx := JONE.out _ (by rw [← hks]; exact List.getElem_mem hi')
          rw [e2]
          exact ⟨x', setAt_self_mem HX.out, hJ.mono (fun b hb => hb.imp id (fun h => ⟨h.1, by omega⟩))⟩
        · simp only [hks, if_false]
          obtain ⟨y, hy, hg⟩ := HE.out _ (List.getElem_mem hi') hks
          exact ⟨y, setAt_mem hy hks, ((GR.jr _ (Nat.le_refl _) hg).go (fun b hb => IN.out.block b (LTS.out b hb) (by have := HS.out b hb; omega)) (fun b hb => Or.inl hb))⟩
    · intro k v w1 hkv hlk hrg1 hg1 hs1 hen
      have I1 := Lib.hid (IN.out.grown hg1 (Or.inr (Nat.le_refl _)))
      have HR1 := Lib.hid hrg1; have HLK := Lib.hid hlk; have HKV := Lib.hid hkv
      have keep1 : ∀ b, (S b ∨ (lo ≤ b ∧ b < N)) → w1.heap[b]? = wr.heap[b]? := fun b hb => by
        have hlt : b < w.heap.size := by
          rcases hb with h | h
          · exact LTS.out b h
          · omega
        exact hg1.block b (Nat.lt_of_lt_of_le hlt IN.out.size) (fun e => by have := Option.some.inj e; omega)
      have KP1 := Lib.hid keep1
      clear keep1
      by_cases hks : k = s
      · subst hks
        have hst2 : mv' = mv ∧ UR wr S lo q N jx x := by
          rcases ST.out with ⟨_, h⟩ | ⟨h, _⟩
          · exact h
          · rw [hlk] at h; cases h
        obtain ⟨hmv, hU⟩ := hst2
        have hv : v = x := ONE.out _ _ _ (hmv ▸ hkv) HX.out
        subst hv
        have hU1 : UR w1 S lo q N jx v := hU.go (fun b h => KP1.out b (Or.inl h)) _ (fun b h1 h2 => KP1.out b (Or.inr ⟨h1, h2⟩)) (Nat.le_refl _)
        obtain ⟨t, u, rfl, ht⟩ := hU1.kinds hq
        have hop := fun w' => eql_empty t u w' ht
        have I := Lib.hid (IH.out w1 hU1 (Nat.le_of_lt HR1.out.mapAt.lt))
        unfold HolePost at I
        have HMV := Lib.hid hmv
        clear hU hU1 hrg1 hg1 hs1 hkv hlk hmv
        go_wp2_with (simp only [hop])
        refine I.out.mono ?_
        rintro e w2 ⟨x', rfl, hJ, hIn⟩
        have HR2 := Lib.hid (HR1.out.same (w' := w2) (hIn.block N HR1.out.mapAt.lt (by omega)) (hIn.block _ HR1.out.ltr (by omega)))
        have I2 := Lib.hid (I1.out.trans (hIn.wider (by omega)))
        obtain ⟨w3, hrun, hrg3, hg3, hs3⟩ := HR2.out.store (P := Tryz.prog) (T := 61) (K := 9) (E := 20) HNE.out Tryz.underlying61 Tryz.underlying9 HKV.out x'
        have HR3 := Lib.hid hrg3
        have I3 := Lib.hid (I2.out.grown hg3 (Or.inl ⟨hlo, hhi⟩))
        have form := hJ.form
        have J3 := Lib.hid (hJ.go (w' := w3) (fun b hb => hg3.block b (by
            have h1 := HR2.out.mapAt.lt
            rcases hb with h | h
            · have := HS.out b h; omega
            · omega) (fun e => by have := Option.some.inj e; rcases hb with h | h; (have := HS.out b h; omega); omega)) (fun _ h => h))
        clear hop I hJ hIn hrg3 hg3 hs3 hen
        rcases form with rfl | ⟨t', u', rfl⟩
        all_goals
          go_wp2_with fail
          go_roundw
          case rel => exact ⟨_, _, HR3.out, Or.inr ⟨by simp, _, by rw [HMV.out], J3.out⟩, I3.out⟩
          case measure => rw [HR3.out.n, HR.out.n, cnt_setAt]; have h := cnt_next HLK.out HKV.out; simp only [ne_eq, decide_not] at h; exact h
      · have hkmv : (k, v) ∈ mv := by
          rcases ST.out with ⟨_, rfl, _⟩ | ⟨_, x', rfl, _⟩
          · exact hkv
          · obtain ⟨p, hp, e⟩ := List.mem_map.1 hkv
            by_cases h : p.1 = s
            · rw [if_pos h] at e; exact absurd ((Prod.mk.inj e).1.symm.trans h) hks
            · rw [if_neg h] at e; exact e ▸ hp
        obtain ⟨j, hj, hg⟩ := ENT.out k v hkmv hks
        have hgv := hg.go (w' := w1) (S' := S) (fun b hb => I1.out.block b (LTS.out b hb) (by have := HS.out b hb; omega)) (fun _ h => h)
        have hop := fun w' => (hgv.noEmpty w').1
        have hop2 := fun X Y w' => guard_empty .eql 20 X Y v hgv.form w'
        have I := Lib.hid (deleteEmpty_clean _ j v w1 S (Nat.le_refl _) hj hgv (fun b hb => Nat.lt_of_lt_of_le (LTS.out b hb) I1.out.size))
        have HKS := Lib.hid hks
        clear hg hgv hrg1 hg1 hs1 hkv hlk hkmv hj hks
        go_wp2_with (simp only [hop, hop2])
        refine I.out.mono ?_
        rintro e w2 ⟨rfl, hb2⟩
        have HR2 := Lib.hid (ranges_below HR1.out hb2)
        have I2 := Lib.hid (I1.out.trans (Inside.of_below hb2))
        have hst := HR2.out.mapAt.store_same (P := Tryz.prog) (T := 61) (K := 9) (E := 20) Tryz.underlying61 Tryz.underlying9 HKV.out
        have ST2 := Lib.hid (ST.out.go (left' := fun z => left z && !decide (z = k)) (w2 := w2) (by simp [Ne.symm HKS.out]) (fun b hb => (hb2.block b (by
            have h1 := HR1.out.mapAt.lt
            rcases hb with h | h
            · have := HS.out b h; omega
            · omega)).trans (KP1.out b hb)))
        clear hb2 hop hop2 I hen
        go_wp2_with fail
        go_roundw
        case rel => exact ⟨_, _, HR2.out, ST2.out, I2.out⟩
        case measure => rw [HR2.out.n, HR.out.n]; have h := cnt_next HLK.out HKV.out; simp only [ne_eq, decide_not] at h; exact h

/-- What stands at a path's end is gone, whatever else there is stays. -/
theorem deleteEmpty_hole : ∀ (p : List Stp), p ≠ [] → ∀ (j : J) (v : Value) (w : World) (S : Nat → Prop) (lo hi : Nat), JOK j → UR w S lo p hi j v → (∀ b, S b → b < lo) → hi ≤ w.heap.size → Calls Tryz.prog 52 #[v] w (HolePost S lo hi (delJ p j) w)
  | [], h, _, _, _, _, _, _, _, _, _, _ => absurd rfl h
  | .idx i :: q, _, j, v, w, S, lo, hi, hok, hU, hS, hhi => by
    cases j with
    | arr l =>
      obtain ⟨N, xs, jx, x, rfl, h1, h2, h3, h4, h5, h6, h7, h8⟩ := hU
      by_cases hq : q = []
      · subst hq
        obtain rfl : x = emptyV := h7
        have hil : i < l.length := by
          rcases Nat.lt_or_ge i l.length with h | h
          · exact h
          · rw [List.getElem?_eq_none h] at h5; cases h5
        rw [delJ]
        exact deleteEmpty_arrDrop hok hS h1 h2 h3 h4 hil h6 h8
      · rw [delJ_idx hq]
        exact deleteEmpty_arrDeep hq hok hS h1 h2 h3 h4 h5 h6 h7 h8 fun w' hU' hN => deleteEmpty_hole q hq jx x w' S lo N (hok.arr_mem _ (List.mem_of_getElem? h5)) hU' hS hN
    | _ => exact hU.elim
  | .key s :: q, _, j, v, w, S, lo, hi, hok, hU, hS, hhi => by
    cases j with
    | obj m =>
      obtain ⟨N, mv, jx, x, rfl, h1, h2, h3, h4, h5, h6, h7, h8⟩ := hU
      by_cases hq : q = []
      · subst hq
        obtain rfl : x = emptyV := h7
        rw [delJ]
        exact deleteEmpty_mapDrop hok hS h1 h2 h3 h4 h6 h8
      · rw [delJ_key hq]
        exact deleteEmpty_mapDeep hq hok hS h1 h2 h3 h4 h5 h6 h7 h8 fun w' hU' hN => deleteEmpty_hole q hq jx x w' S lo N (hok.obj_mem.2 _ h5).2 hU' hS hN
    | _ => exact hU.elim
end Go.Proofs.YtnaijgdffbfapaaGreatDoor
