/- A row of interface values in memory, and the make of one. impl.listToGo at the list of any right JSON value. -/
import Derived.Test.YtbdciilkapgfjaaGreatDoorProg
import Derived.Test.YtbdciilkapgfjaaGreatDoorG
import Derived.Deep.OwnRows
import Derived.Deep.DeepCutAuto
import Derived.Deep.CutBlock
import Derived.LoopTactic
namespace Go.Proofs.YtbdciilkapgfjaaGreatDoor
open Go.RowKit

/-- Block N holds the cells xs, none of them frozen. -/
def Arr (w : World) (N : Nat) (t : TypeId) (xs : List Value) : Prop := w.heap[N]? = some (.cells xs.toArray t (0, 0))
section
variable {w w' : World} {N : Nat} {t : TypeId} {xs : List Value}
theorem Arr.cell (h : Arr w N t xs) {i : Nat} (hi : i < xs.length) : w.cell? ⟨N, i, none⟩ = some xs[i] := by
  simp [World.cell?, show w.heap[N]? = _ from h, hi]
theorem Arr.fr (h : Arr w N t xs) (i : Nat) : w.frozen? ⟨N, i, none⟩ = false := by simp [World.frozen?, show w.heap[N]? = _ from h]
theorem Arr.lt (h : Arr w N t xs) : N < w.heap.size := by
  rcases Nat.lt_or_ge N w.heap.size with h' | h'
  · exact h'
  · rw [Arr, Array.getElem?_eq_none h'] at h; cases h
theorem Arr.set (h : Arr w N t xs) (i : Nat) (v : Value) : Arr (w.setCell ⟨N, i, none⟩ v) N t (xs.set i v) := by
  have := heap_setCell_same w ⟨N, i, none⟩ v h rfl
  simpa [Arr] using this
theorem Arr.same (h : Arr w N t xs) (hs : w'.heap[N]? = w.heap[N]?) : Arr w' N t xs := hs.trans h
theorem Arr.below {B : Nat} (h : Arr w N t xs) (hb : Below B w w') (hlt : N < B) : Arr w' N t xs := h.same (hb.block N hlt)
end

/-- All blocks from lo on that are there. -/
def New (lo : Nat) (w : World) : Nat → Prop := fun b => lo ≤ b ∧ b < w.heap.size

theorem makeAnys (n : Nat) (hn : n ≤ 400) (w : World) :
    (Instr.makeSlice 40 (.int .i64 (n : Int)) (.int .i64 (n : Int))).run Tryz.prog w = .ok (.slice (some ⟨w.heap.size, 0, none⟩) n n) (w.alloc (.cells (madeCells #[.nilIface] n) 20)) :=
  run_make_row' 40 20 .nilIface 16 Tryz.underlying40 (by kernel_rfl) rfl .i64 .i64 n (by omega) (by omega) w

theorem made_nil (n : Nat) : madeCells #[.nilIface] n = (List.replicate n Value.nilIface).toArray := by
  unfold madeCells
  apply Array.ext
  · simp
  · intro i h1 h2; simp [Nat.mod_one]

theorem arr_made (w : World) (n : Nat) : Arr (w.alloc (.cells (madeCells #[.nilIface] n) 20)) w.heap.size 20 (List.replicate n .nilIface) := by
  rw [made_nil]; exact heap_alloc_at _ _
end Go.Proofs.YtbdciilkapgfjaaGreatDoor

namespace Go.Proofs.YtbdciilkapgfjaaGreatDoor
open Go.RowKit

/-- What toGo leaves: the value as the package takes it, in new memory. -/
def ToGoPost (w : World) (g : G) (e : Ending) (w' : World) : Prop :=
  ∃ v, e = .returned (.tuple #[v, .bool true]) ∧ GR w' (New w.heap.size w') g v ∧ Below w.heap.size w w'

/-- m elements have been taken over into block N. -/
def TakenList (w : World) (N : Nat) (l : List J) (m : Nat) (wr : World) : Prop :=
  ∃ xs : List Value, xs.length = l.length ∧ Arr wr N 20 xs ∧ Below w.heap.size w wr ∧ ∀ i (_ : i < l.length) (h : i < xs.length), i < m → GR wr (fun b => New w.heap.size wr b ∧ b ≠ N) l[i].g xs[i]

theorem TakenList.step {w wr w1 w2 : World} {l : List J} {m : Nat} {xs : List Value} {v : Value} (hm : m < l.length) (hxl : xs.length = l.length) (hA : Arr wr w.heap.size 20 xs) (hb : Below w.heap.size w wr)
    (hG : ∀ i (_ : i < l.length) (h : i < xs.length), i < m → GR wr (fun b => New w.heap.size wr b ∧ b ≠ w.heap.size) l[i].g xs[i])
    (h1 : Below wr.heap.size wr w1) (h2 : Below w1.heap.size w1 w2) (hv : GR w2 (New w1.heap.size w2) l[m].g v) :
    Arr w2 w.heap.size 20 xs ∧ TakenList w w.heap.size l (m + 1) (w2.setCell ⟨w.heap.size, m, none⟩ v) := by
  have hN := hA.lt
  have h3 : Below wr.heap.size wr w2 := h1.trans (h2.mono h1.size)
  have hA2 := hA.below h3 hN
  refine ⟨hA2, xs.set m v, by simpa using hxl, hA2.set m v, (hb.trans (h3.mono hb.size)).setCell (Nat.le_refl _) v, fun i hi hx him => ?_⟩
  have hs : ∀ (S : Nat → Prop), (∀ b, S b → b ≠ w.heap.size) → Same S w2 (w2.setCell ⟨w.heap.size, m, none⟩ v) := fun S hS b hSb => Below.heap_setCell _ _ _ _ (by have := hS b hSb; exact this)
  have hz : (w2.setCell ⟨w.heap.size, m, none⟩ v).heap.size = w2.heap.size := by simp [World.setCell]
  have sz := h3.size; have sz1 := h1.size
  rcases Nat.lt_or_ge i m with h | h
  · have e : (xs.set m v)[i] = xs[i]'(by omega) := List.getElem_set_ne (by omega) _
    rw [e]
    have g := (hG i hi (by omega) h).go (S' := fun b => New w.heap.size w2 b ∧ b ≠ w.heap.size) (fun b hb' => h3.block b hb'.1.2) (fun b hb' => ⟨⟨hb'.1.1, by have := hb'.1.2; omega⟩, hb'.2⟩)
    exact g.go (hs _ (fun b hb' => hb'.2)) (fun b hb' => ⟨⟨hb'.1.1, by rw [hz]; exact hb'.1.2⟩, hb'.2⟩)
  · obtain rfl : i = m := by omega
    have e : (xs.set i v)[i] = v := List.getElem_set_self _
    rw [e]
    have g := hv.mono (S' := fun b => New w.heap.size w2 b ∧ b ≠ w.heap.size) (fun b hb' => ⟨⟨by have := hb'.1; omega, hb'.2⟩, by have := hb'.1; omega⟩)
    exact g.go (hs _ (fun b hb' => hb'.2)) (fun b hb' => ⟨⟨hb'.1.1, by rw [hz]; exact hb'.1.2⟩, hb'.2⟩)

theorem listToGo_any {S : Nat → Prop} {l : List J} {a : Option Addr} {cap : Nat} {w : World} (hl : l.length ≤ 400) (hS : ∀ b, S b → b < w.heap.size)
    (helem : ∀ i (_ : i < l.length), ∃ b o x, a = some ⟨b, o, none⟩ ∧ S b ∧ At6 w b (o + i * 6) x ∧ VR w S l[i] x)
    (ih : ∀ i (_ : i < l.length) (x : VC) (w' : World) (S' : Nat → Prop), VR w' S' l[i] x → (∀ b, S' b → b < w'.heap.size) → Calls Tryz.prog 8 #[x.val] w' (ToGoPost w' l[i].g)) :
    Calls Tryz.prog 13 #[.slice a l.length cap] w fun e w' => ∃ N, e = .returned (.tuple #[.slice (some ⟨N, 0, none⟩) l.length l.length, .bool true]) ∧ w.heap.size ≤ N ∧ TakenList w N l l.length w' := by
  have hmk := makeAnys l.length hl
  have he := Lib.hid helem; have hi := Lib.hid ih
  have hSS := Lib.hid hS
  clear helem ih hS
  go_enter Tryz.func13, Tryz.ntmps13
  go_wp2_with fail
  go_loopw [14] (fun i wr => ∃ m : Nat, i = .int .i64 m ∧ m ≤ l.length ∧ TakenList w w.heap.size l m wr) (fun i _ => l.length - (intOf i).toNat)
  case atStart => exact ⟨0, rfl, Nat.zero_le _, _, by simp, arr_made w l.length, (Below.refl _ _).alloc (Nat.le_refl _) _, fun i _ _ h => absurd h (Nat.not_lt_zero i)⟩
  case round =>
    obtain ⟨m, rfl, hm, xs, hxl, hA, hb, hG⟩ := hrel
    have A0 := Lib.hid hA; have B0 := Lib.hid hb; have G0 := Lib.hid hG
    clear hA hb hG
    by_cases hlt : m < l.length
    · obtain ⟨b1, o1, x, ha, hb1, h6, hV⟩ := he.out m hlt
      subst ha
      have h6' := h6.below B0.out (hSS.out b1 hb1)
      have g0 := h6'.c0; have g1 := h6'.c1; have g2 := h6'.c2; have g3 := h6'.c3; have g4 := h6'.c4; have g5 := h6'.c5
      have V0 := Lib.hid hV
      clear h6 h6' hV
      have hb1' : Below wr.heap.size wr (wr.alloc (.cells #[.int .i64 x.k, .int .i64 x.h, .string x.s, .slice x.la x.ll x.lc, .slice x.ka x.kl x.kc, .slice x.va x.vl x.vc] 26)) := (Below.refl _ _).alloc (Nat.le_refl _) _
      have hbS := B0.out.size
      have hV1 := (V0.out.go (S' := S) ((fun b hb => B0.out.block b (hSS.out b hb)) : Same S w wr) (fun _ h => h)).go (S' := S) ((fun b hb => hb1'.block b (by have := hSS.out b hb; omega)) : Same S wr _) (fun _ h => h)
      have IH := hi.out m hlt x _ S hV1 (fun b hb => by have := hSS.out b hb; simp; omega)
      unfold VC.val VC.arr at IH
      have I0 := Lib.hid IH; have N0 := Lib.hid hb1'
      clear IH hb1' hV1 hbS
      go_wp2_with fail
      refine I0.out.mono ?_
      rintro e w2 ⟨v, rfl, hg, hb2⟩
      have K := TakenList.step hlt hxl A0.out B0.out G0.out N0.out hb2 hg
      have hc := K.1.cell (i := m) (by omega)
      have hf := K.1.fr m
      have R := Lib.hid K.2
      have form := hg.form
      clear K hg hb2 g0 g1 g2 g3 g4 g5
      rcases form with rfl | ⟨t', u, rfl⟩
      all_goals
        go_wp2_with fail
        go_roundw
        case rel => exact ⟨m + 1, by go_num, by omega, R.out⟩
        case measure => simp [intOf]; omega
    · go_wp2_with fail
      obtain rfl : m = l.length := by omega
      go_ret2
      exact ⟨_, rfl, Nat.le_refl _, xs, hxl, A0.out, B0.out, G0.out⟩
end Go.Proofs.YtbdciilkapgfjaaGreatDoor
