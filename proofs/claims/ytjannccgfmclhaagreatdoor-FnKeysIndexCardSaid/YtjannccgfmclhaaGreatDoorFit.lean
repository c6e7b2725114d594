/- spec.Fit at any readable tree: true only of a right JSON value of at most 400 parts. -/
import Derived.Test.YtjannccgfmclhaaGreatDoorLookA
namespace Go.Proofs.YtjannccgfmclhaaGreatDoor
open Go.RowKit

theorem Good.own {t : T} (h : Good t) : Own1 t := by rw [Good] at h; exact h.1
theorem Good.l {t : T} (h : Good t) {i : Nat} (hi : i < t.l.length) : Good t.l[i] := by rw [Good] at h; exact h.2.1 i hi
theorem Good.vs {t : T} (h : Good t) {i : Nat} (hi : i < t.vs.length) : Good t.vs[i] := by rw [Good] at h; exact h.2.2.2.2 i hi

theorem jkind {t : T} (h : Own1 t) : t.j.kind = t.k := by
  have := h.k0; have := h.k6
  rw [T.j_eq]
  by_cases h0 : t.k = 0; · simp [h0, J.kind]
  by_cases h1 : t.k = 1; · simp [h1, J.kind]
  by_cases h2 : t.k = 2; · simp [h2, J.kind]
  by_cases h3 : t.k = 3; · simp [h3, J.kind]
  by_cases h4 : t.k = 4; · simp [h4, J.kind]
  by_cases h5 : t.k = 5; · simp [h5, J.kind]
  have h6 : t.k = 6 := by omega
  simp [h6, J.kind]

theorem jhalf {t : T} (h : Own1 t) : t.j.half = t.h := by
  have hh := h.half
  rw [T.j_eq]
  by_cases h3 : t.k = 3; · simp [h3, J.half]
  have h0 : t.h = 0 := by omega
  repeat' split
  all_goals simp_all [J.half]

theorem jtext {t : T} (h : Own1 t) : t.j.text = t.s := by
  have hh := h.text
  rw [T.j_eq]
  by_cases h3 : t.k = 4; · simp [h3, J.text]
  have h0 : t.s = ByteArray.empty := hh.resolve_left h3
  repeat' split
  all_goals simp_all [J.text]

theorem jlist {t : T} (h : Own1 t) : t.j.list = t.l.map T.j := by
  have hh := h.list
  rw [T.j_eq]
  by_cases h3 : t.k = 5; · simp [h3, J.list]
  have h0 : t.l = [] := hh.resolve_left h3
  repeat' split
  all_goals simp_all [J.list]

theorem jents {t : T} (h : Own1 t) : t.j.ents = t.ks.zip (t.vs.map T.j) := by
  have hh := h.keys; have h1 := h.k0; have h2 := h.k6
  rw [T.j_eq]
  by_cases h3 : t.k = 6; · simp [h3, J.ents]
  have h0 : t.ks = [] := hh.resolve_left h3
  repeat' split
  all_goals simp_all [J.ents]

/-- A right tree's reading is a JSON value's. -/
theorem VR.of {w : World} {B : Nat} {t : T} {c : VC} (hg : Good t) (h : TR w B t c) : VR w (· < B) t.j c := by
  have o := hg.own
  have ho := o.vals
  rw [TR] at h
  obtain ⟨hh, hl, hk, hv⟩ := h
  have e1 := jlist o; have e2 := jents o
  rw [VR]
  refine ⟨⟨?_, ?_, ?_, ?_, ?_, ?_⟩, fun i hi => ?_, fun i hi => ?_, fun i hi => ?_⟩
  · rw [hh.k, jkind o]
  · rw [hh.h, jhalf o]
  · rw [hh.s, jtext o]
  · rw [hh.ll, e1]; simp
  · rw [hh.kl, e2]; simp; omega
  · rw [hh.vl, e2]; simp; omega
  · have hi' : i < t.l.length := by rw [e1] at hi; simpa using hi
    obtain ⟨b, o', x, h1, h2, h3, h4⟩ := hl i hi'
    refine ⟨b, o', x, h1, h2, h3, ?_⟩
    have := VR.of (hg.l hi') h4
    simp only [e1, List.getElem_map]; exact this
  · have hi' : i < t.ks.length := by rw [e2] at hi; simp at hi; omega
    obtain ⟨b, o', h1, h2, h3, h4⟩ := hk i hi'
    refine ⟨b, o', h1, h2, ?_⟩
    simp only [e2, List.getElem_zip]; exact h3
  · have hi' : i < t.vs.length := by rw [e2] at hi; simp at hi; omega
    obtain ⟨b, o', x, h1, h2, h3, h4⟩ := hv i hi'
    refine ⟨b, o', x, h1, h2, h3, ?_⟩
    have := VR.of (hg.vs hi') h4
    simp only [e2, List.getElem_zip, List.getElem_map]; exact this
termination_by SizeOf.sizeOf t
decreasing_by
  · exact t.lt_l hi'
  · exact t.lt_vs hi'

theorem lk_alloc (w : World) : Lk (w.alloc (.cells #[.int .i64 0, .int .i64 0, .bool false] 48)) w.heap.size 0 0 false := heap_alloc_at _ _

theorem Fit_any {B : Nat} {t : T} {c : VC} {w : World} (hR : TR w B t c) (hB : B ≤ w.heap.size) (h40 : LB ≤ B) (hT : Tabs w) :
    Calls Tryz.prog 15 #[c.val] w fun e w' => ∃ b, e = .returned (.bool b) ∧ (b = true → Good t ∧ t.n ≤ 400) ∧ Below w.heap.size w w' := by
  have hb1 : Below w.heap.size w ((w.alloc (.cells c.arr 26)).alloc (.cells #[.int .i64 0, .int .i64 0, .bool false] 48)) := ((Below.refl _ _).alloc (Nat.le_refl _) _).alloc (by simp) _
  have hL := lk_alloc (w.alloc (.cells c.arr 26))
  have hR1 := hR.go (hb1.mono hB) (Nat.le_refl _)
  have hT1 := hT.below (hb1.mono hB) h40
  have H := look_any (SizeOf.sizeOf t) t c 0 0 0 false _ B _ (Nat.le_refl _) hR1 hL (fun _ => by omega) (by simp; omega) h40 hT1 (by omega) (by omega)
  have e : (w.alloc (.cells c.arr 26)).heap.size = w.heap.size + 1 := by simp
  rw [e] at H hL
  have h6 := Lib.hid (box_alloc w c)
  obtain ⟨k, h, s, la, ll, lc, ka, kl, kc, va, vl, vc⟩ := c
  unfold VC.val VC.arr at *
  have H1 := Lib.hid H
  have B1 := Lib.hid hb1
  clear H hb1 hL hR1 hT1 hR hT
  go_enter Tryz.func15, Tryz.ntmps15
  go_wp2_with fail
  refine H1.out.mono ?_
  rintro e w1 ⟨v, p, q, bad, rfl, hL, hg, rfl, hi⟩
  have k2 := hL.c2
  have hbb := B1.out.trans ⟨hg.os, hg.tape, hg.output, hg.size, fun k hk => hg.block k (by simp; omega) (by simp; omega)⟩
  have BB := Lib.hid hbb; have I := Lib.hid hi
  clear hg hi hbb hL
  go_wp2_with fail
  go_ret
  exact ⟨_, rfl, fun hb => by have := I.out (by simpa using hb); exact ⟨this.2.1, by omega⟩, BB.out⟩
end Go.Proofs.YtjannccgfmclhaaGreatDoor
