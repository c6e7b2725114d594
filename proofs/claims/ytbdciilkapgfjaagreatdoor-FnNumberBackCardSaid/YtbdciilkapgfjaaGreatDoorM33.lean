/- A part of the proof. A part of the proof. A part of the proof. A part of the proof. -/
import Derived.Test.YtbdciilkapgfjaaGreatDoorZKnB
import Derived.Test.YtbdciilkapgfjaaGreatDoorM32
import Derived.Laws.Tables
import Derived.Test.YtbdciilkapgfjaaGreatDoorM31
namespace Go.Proofs.YtbdciilkapgfjaaGreatDoor
open Go.RowKit

/-- A fresh decimal's block. -/
def IsBoxD (cs : Array Value) (t : TypeId) : Value → (Nat → Prop) → World → Prop := fun v S w => ∃ N, v = .pointer (some ⟨N, 0, none⟩) ∧ S N ∧ w.heap[N]? = some (.cells cs t (0, 0))
theorem isBoxD_st {cs : Array Value} {t : TypeId} : ∀ v S w w', IsBoxD cs t v S w → Same S w w' → IsBoxD cs t v S w' := fun _ _ _ _ ⟨N, e, h1, h2⟩ hs => ⟨N, e, h1, (hs N h1).trans h2⟩
/-- A decimal's value over a row that a call owns. -/
def DecVal (base n : Nat) (xs : List Value) (dp : Int) : Value → (Nat → Prop) → World → Prop := fun v S w => ∃ a c, v = .agg #[.slice a n c, .int .i64 dp] ∧ RowIs base 5 1 n xs (.slice a n c) S w
theorem decVal_st {base n : Nat} {xs : List Value} {dp : Int} : ∀ v S w w', DecVal base n xs dp v S w → Same S w w' → DecVal base n xs dp v S w' := fun _ _ _ _ ⟨a, c, e, h⟩ hs => ⟨a, c, e, rowIs_st h hs⟩
theorem rowD_form {w : World} {base size n : Nat} {e : TypeId} {v : Value} {xs : List Value} (h : w.ownsRow base e size v n xs) : ∃ a c, v = .slice a n c := by
  rcases h.2 with ⟨h1, h2⟩ | ⟨g, cap, cur, h1, _⟩
  · exact ⟨none, 0, by rw [h1, h2]⟩
  · exact ⟨_, _, h1⟩

section
variable {news : List (Nat × Tmp)} {olds : List (Tmp × Value)} {L : List KnE} {w0 : World} {i : Nat} {o : Oper}

theorem kn_allocD (t : TypeId) (z : Value) (hL : L[i]? = some (.gen none (IsBoxD z.cells t) isBoxD_st)) (ho : o.op = .alloc t) (hz : ∀ w, (zeroValue t).run Tryz.prog w = .ok z w) : StepOKE Tryz.prog news olds (knE L) w0 i o := by
  unfold StepOKE
  rw [knE_at hL]
  refine ⟨(fun j hj => by cases hj), ?_⟩
  intro Q d u S w b K hp hdi hR hd he hK
  refine wp_alloc_box t z ho hz (hK.out _ (fun g => g = w.heap.size) _ none (World.grownBy_alloc _ _ _) (fun b h => by cases h) ⟨w.heap.size, rfl, rfl, heap_alloc_new _ _⟩ (fun g hg => ?_))
  subst hg
  exact ⟨Or.inl (Nat.le_refl _), by simp⟩

/-- A slice of no element. -/
theorem kn_build0D {base size : Nat} {t : TypeId} (T : TypeId) (hL : L[i]? = some (.row none base t size 0 [])) (ho : o.op = .buildSlice T 0 #[]) (hbase : base ≤ w0.heap.size)
    (hrun : ∀ w, (Instr.buildSlice T 0 #[]).run Tryz.prog w = .ok (.slice (some ⟨w.heap.size, 0, none⟩) 0 0) (w.alloc (.cells #[] t))) : StepOKE Tryz.prog news olds (knE L) w0 i o := by
  unfold StepOKE
  rw [knE_at hL]
  refine ⟨(fun j hj => by cases hj), ?_⟩
  intro Q d u S w b K hp hdi hR hd he hK
  refine wp_of_run (w' := w.alloc (.cells #[] t)) (.slice (some ⟨w.heap.size, 0, none⟩) 0 0) (by unfold execOp; simp only [ho, List.map_toArray, List.map_nil, Sem.run_bind, hrun w, Sem.run_pure, Result.andThen_ok]) (hK.out _ (fun b => b = w.heap.size) _ none (World.grownBy_alloc _ _ _) (fun b h => by cases h) ⟨?_, fun g hg => ?_⟩ (fun b h => ?_))
  · exact ⟨by simp, Or.inr ⟨w.heap.size, 0, #[], rfl, Nat.le_trans hbase hp.size, heap_alloc_new _ _, Nat.le_refl _, Nat.zero_le _, by simp, by simp⟩⟩
  · cases hg; rfl
  · subst h
    exact ⟨Or.inl (Nat.le_refl _), by simp⟩

/-- A decimal's value, built of a row that another operation has made. -/
theorem kn_dec {base n : Nat} {e' : Option Nat} {xs : List Value} {dp : Int} (js jd : Nat) (s y : Tmp) (heat : eatB L = true) (hL : L[i]? = some (.gen (some js) (DecVal base n xs dp) decVal_st)) (ho : o.op = .build 208 #[(0, .tmp s), (1, .tmp y)])
    (hs : (js, s) ∈ news) (hjs : L[js]? = some (.row e' base 5 1 n xs)) (hws : waitsB o js = true) (hy : (jd, y) ∈ news) (hjd : L[jd]? = some (.v (.int .i64 dp))) (hwd : waitsB o jd = true) : StepOKE Tryz.prog news olds (knE L) w0 i o := by
  unfold StepOKE
  rw [knE_at hL]
  refine ⟨fun j hj d hd => ?_, ?_⟩
  · cases hj
    obtain ⟨e1, h4, h5, h6⟩ := waits_of hws
    rw [← h6]; exact hd e1 h4 h5
  intro Q d u S w b K hp hdi hR hd he hK
  obtain ⟨hdj, hlj⟩ := he js rfl
  obtain ⟨⟨hown, hSg⟩, _⟩ := hp.val js none e' (RowIs base 5 1 n xs) (by rw [knE_at hjs]; rfl) hdj hlj
  obtain ⟨p, q, hv⟩ := rowD_form hown
  have es := (hR.1 _ hs).trans hv
  rw [hv] at hown hSg
  have ey := (uses1 hy hjd hwd).eval heat hp hR hd _ List.mem_cons_self
  simp only at ey
  refine wp_of_run (w' := w) (.agg #[.slice p n q, .int .i64 dp]) ?_ (hK.out _ (fun g => (Value.slice p n q).ownBlock = some g) w (Value.slice p n q).ownBlock (grown_of_below0 (Below.refl _ _) _) (fun b h => Or.inr ⟨js, rfl, hSg b h⟩) ⟨p, q, rfl, hown, fun g hg => hg⟩ (fun g hg => ⟨Or.inr hg, (hown.lt g hg).2⟩))
  unfold execOp
  simp only [ho, List.map_toArray, List.map_cons, List.map_nil, es, ey]
  go_simp
end

theorem zero_decimal (w : World) : (zeroValue 208).run Tryz.prog w = .ok (.agg #[.slice none 0 0, .int .i64 0]) w := by kernel_rfl
theorem build_bytes0 (w : World) : (Instr.buildSlice 105 0 #[]).run Tryz.prog w = .ok (.slice (some ⟨w.heap.size, 0, none⟩) 0 0) (w.alloc (.cells #[] 5)) := by kernel_rfl
theorem size_dec : (Tryz.prog.info? 208).map (·.size) = some 2 := by kernel_rfl
theorem slice_bytes (g len cap n : Nat) (h : n ≤ len) (h2 : len ≤ cap) (w : World) : (Instr.sliceAt 105 (.slice (some ⟨g, 0, none⟩) len cap) none (some (.int .i64 (n : Int))) none).run Tryz.prog w = .ok (.slice (some ⟨g, 0, none⟩) n cap) w := by
  have h4 : n ≤ cap := Nat.le_trans h h2
  go_simp
theorem load_bytes (b o : Nat) (v : Value) (w : World) (h : w.cell? ⟨b, o, none⟩ = some v) : (Instr.loadAt 105 (.pointer (some ⟨b, o, none⟩))).run Tryz.prog w = .ok v w := by go_simp
end Go.Proofs.YtbdciilkapgfjaaGreatDoor

namespace Go.Proofs.YtbdciilkapgfjaaGreatDoor
open Go.RowKit

theorem max_zero (n : Nat) (w : World) : (Builtin.max_ #[3, 3] 3 #[.int .i64 (n : Int), .int .i64 0]).run Tryz.prog w = .ok (.int .i64 (n : Int)) w := by
  go_simp
theorem run_max0 {o : Oper} {x : Tmp} {n : Nat} (ho : o.op = .call { callee := .builtin .max, args := #[.tmp x, .const (.int .i64 0)], argTypes := #[3, 3] }) {b : Act} (e : b.eval (.tmp x) = .int .i64 (n : Int)) (hty : o.type = 3) (w : World) : (execOp b.eval o).run Tryz.prog w = .ok (.value (.int .i64 (n : Int))) w := by
  unfold execOp
  have h0 : b.eval (.const (.int .i64 0)) = .int .i64 0 := rfl
  simp only [ho, resolve, invoke, builtin, List.map_toArray, List.map_cons, List.map_nil, e, h0, hty, Sem.run_bind, Sem.run_pure, Result.andThen_ok, max_zero]
theorem run_sliceD {o : Oper} {x y : Tmp} {g len cap n : Nat} (ho : o.op = .slice 105 (.tmp x) none (some (.tmp y)) none) (h : n ≤ len) (h2 : len ≤ cap) {b : Act} (e1 : b.eval (.tmp x) = .slice (some ⟨g, 0, none⟩) len cap) (e2 : b.eval (.tmp y) = .int .i64 (n : Int)) (w : World) :
    (execOp b.eval o).run Tryz.prog w = .ok (.value (.slice (some ⟨g, 0, none⟩) n cap)) w := by
  unfold execOp
  simp only [ho, e1, e2, Option.map_some, Option.map_none, Sem.run_bind, slice_bytes g len cap n h h2 w, Sem.run_pure, Result.andThen_ok]
theorem src_dec {w : World} {g n cap : Nat} {D : List Nat} (h : ∀ j (_ : j < D.length), w.cell? ⟨g, j, none⟩ = some (.int .u8 ((D[j] : Nat) : Int))) (hn : n ≤ D.length) : Src w 1 (.slice (some ⟨g, 0, none⟩) n cap) n (dcells (D.take n)) := by
  refine Or.inr ⟨⟨g, 0, none⟩, cap, rfl, by rw [dcells_len]; simp; omega, fun j u hj => ?_⟩
  have hj' : j < (D.take n).length := by
    have := (List.getElem?_eq_some_iff.1 hj).1
    rwa [dcells_len] at this
  rw [dcells_get hj'] at hj
  cases hj
  rw [addr_add, Nat.zero_add, h j (by simp at hj'; omega)]
  simp
theorem bytes_one {xs : List Nat} : ∀ u ∈ dcells xs, u.oneCell' = true := by
  intro u hu
  simp [dcells] at hu
  obtain ⟨d, _, rfl⟩ := hu
  rfl

set_option maxRecDepth 100000 in
set_option maxHeartbeats 2000000 in
/-- down, where there are more digits. -/
theorem down_any {w : World} {lo hi N cap : Nat} {a : Option Addr} {D : List Nat} {dp : Int} (h : DecAt w lo hi N a cap D dp) (n : Nat) (hn : n < D.length) (hl : D.length < 100) :
    Calls Tryz.prog 165 #[.pointer (some ⟨N, 0, none⟩), .int .i64 (n : Int)] w fun e w' => ∃ M, e = .returned (.pointer (some ⟨M, 0, none⟩)) ∧ (∃ dp', IsDec w' w.heap.size w'.heap.size M (trimD (D.take n)) dp' ∧ (dp' = dp ∨ dp' = 0) ∧ (trimD (D.take n) ≠ [] → dp' = dp)) ∧ Below w.heap.size w w' := by
  have hin : (Tryz.prog.info? 5).map (fun i => (i.zero, i.size, i.bytes)) = some (some (.int .u8 0), 1, 1) := by kernel_rfl
  obtain ⟨i0, hi0, hz0, hz1, hz2⟩ := info_parts hin
  have J0 := Lib.hid hi0; have J1 := Lib.hid hz0; have J2 := Lib.hid hz1; have J3 := Lib.hid hz2
  clear hi0 hz0 hz1 hz2 hin
  obtain ⟨g, rfl, hc, hcap, hg1, hg2, hg3⟩ := h.arr (by intro e; subst e; simp at hn)
  have c0 := h.c0; have c1 := h.c1
  have H := Lib.hid h; have HC := Lib.hid hc; have HN := Lib.hid hn; have HCAP := Lib.hid hcap
  have hge : n < D.length := hn
  have NS := Lib.hid (Nat.lt_of_lt_of_le h.high h.size); have GS := Lib.hid (Nat.lt_of_lt_of_le hg1 h.size)
  have hn100 : n < 100 := by omega
  clear h hc hn hcap
  go_enter Tryz.func165, Tryz.ntmps165
  go_upto_region 3 with fail
  obtain ⟨L, hL⟩ : ∃ L : List KnE, L = [.row none w.heap.size 5 1 0 [], .v (.pointer (some ⟨N, 0, none⟩)), .v (.pointer (some ⟨N, 0, none⟩)), .v (.pointer (some ⟨N, 0, none⟩)), .v (.slice (some ⟨g, 0, none⟩) D.length cap), .v (.int .i64 (n : Int)), .v (.int .i64 (n : Int)), .v (.slice (some ⟨g, 0, none⟩) n cap), .row (some 0) w.heap.size 5 1 (0 + n) ([] ++ dcells (D.take n)), .v (.pointer (some ⟨N, 0, none⟩)), .v (.pointer (some ⟨N, 0, none⟩)), .v (.pointer (some ⟨N, 1, none⟩)), .v (.int .i64 dp), .gen (some 8) (DecVal w.heap.size (0 + n) ([] ++ dcells (D.take n)) dp) decVal_st, .gen none (IsBoxD (Value.agg #[.slice none 0 0, .int .i64 0]).cells 208) isBoxD_st] := ⟨_, rfl⟩
  have FAR : ∀ {b : Nat}, ∀ k ∈ L, k.old ≠ some b := by
    intro b k hk
    rw [hL] at hk
    simp only [List.mem_cons, List.not_mem_nil, or_false] at hk
    rcases hk with rfl | rfl | rfl | rfl | rfl | rfl | rfl | rfl | rfl | rfl | rfl | rfl | rfl | rfl | rfl <;> (intro e; cases e)
  subst hL
  refine planK 16 29 [(0, 14), (1, 15), (2, 16), (3, 17), (4, 18), (5, 19), (6, 20), (7, 21), (8, 22), (9, 23), (10, 24), (11, 25), (12, 26), (13, 27), (14, 5)] [(0, .pointer (some ⟨N, 0, none⟩)), (1, .int .i64 (n : Int))] [.row none w.heap.size 5 1 0 [], .v (.pointer (some ⟨N, 0, none⟩)), .v (.pointer (some ⟨N, 0, none⟩)), .v (.pointer (some ⟨N, 0, none⟩)), .v (.slice (some ⟨g, 0, none⟩) D.length cap), .v (.int .i64 (n : Int)), .v (.int .i64 (n : Int)), .v (.slice (some ⟨g, 0, none⟩) n cap), .row (some 0) w.heap.size 5 1 (0 + n) ([] ++ dcells (D.take n)), .v (.pointer (some ⟨N, 0, none⟩)), .v (.pointer (some ⟨N, 0, none⟩)), .v (.pointer (some ⟨N, 1, none⟩)), .v (.int .i64 dp), .gen (some 8) (DecVal w.heap.size (0 + n) ([] ++ dcells (D.take n)) dp) decVal_st, .gen none (IsBoxD (Value.agg #[.slice none 0 0, .int .i64 0]).cells 208) isBoxD_st] (by kernel_rfl) (by kernel_rfl) rfl ?_ (by kernel_rfl) (by rfl) (by simp) ?_ (by kernel_rfl) ?_ ?_
  · intro p hp
    simp only [List.mem_cons, List.not_mem_nil, or_false] at hp
    rcases hp with rfl | rfl <;> rfl
  · intro k hk b hb
    exact absurd hb (FAR k hk)
  · intro i' o ho hT
    rcases i' with _ | _ | _ | _ | _ | _ | _ | _ | _ | _ | _ | _ | _ | _ | _ | i'
    · obtain rfl := Option.some.inj ho
      exact kn_build0D 105 rfl rfl (Nat.le_refl _) build_bytes0
    · obtain rfl := Option.some.inj ho
      exact kn_move 0 (by rfl) rfl rfl (by simp)
    · obtain rfl := Option.some.inj ho
      exact kn_run1 1 15 (by rfl) rfl (by simp) rfl (by kernel_rfl) (fun b w e => run_nilCheck rfl e w)
    · obtain rfl := Option.some.inj ho
      exact kn_field1 208 0 2 16 (by rfl) rfl rfl (by simp) rfl (by kernel_rfl) (fieldDec0 _)
    · obtain rfl := Option.some.inj ho
      exact kn_load 105 3 17 (by rfl) rfl rfl (by simp) rfl (by kernel_rfl) c0 NS.out FAR (load_bytes _ _ _)
    · obtain rfl := Option.some.inj ho
      exact kn_move 1 (by rfl) rfl rfl (by simp)
    · obtain rfl := Option.some.inj ho
      exact kn_run1 5 19 (by rfl) rfl (by simp) rfl (by kernel_rfl) (fun b w e => run_max0 rfl e rfl w)
    · obtain rfl := Option.some.inj ho
      exact kn_run2 4 6 18 20 (by rfl) rfl (by simp) rfl (by kernel_rfl) (by simp) rfl (by kernel_rfl) (fun b w e1 e2 => run_sliceD rfl (Nat.le_of_lt HN.out) HCAP.out e1 e2 w)
    · obtain rfl := Option.some.inj ho
      exact kn_app1 (inf := i0) (bytes := 1) 105 0 14 (.tmp 21) rfl rfl (by simp) rfl (by kernel_rfl) (src_old 7 21 (by rfl) (by simp) rfl (by kernel_rfl) (src_dec HC.out (Nat.le_of_lt HN.out)) (fun w' hk hs => hs.keep (B := g) (fun ad n c e => by cases e; rfl) (hk g GS.out FAR))) Tryz.underlying105 J0.out J1.out J2.out J3.out rfl Nat.one_pos bytes_one (by unfold maxLen; omega) (by omega) (Nat.le_refl _)
    · obtain rfl := Option.some.inj ho
      exact kn_move 0 (by rfl) rfl rfl (by simp)
    · obtain rfl := Option.some.inj ho
      exact kn_run1 9 23 (by rfl) rfl (by simp) rfl (by kernel_rfl) (fun b w e => run_nilCheck rfl e w)
    · obtain rfl := Option.some.inj ho
      exact kn_field1 208 1 10 24 (by rfl) rfl rfl (by simp) rfl (by kernel_rfl) (fieldDec1 _)
    · obtain rfl := Option.some.inj ho
      exact kn_load 3 11 25 (by rfl) rfl rfl (by simp) rfl (by kernel_rfl) c1 NS.out FAR (loadInt _ _ _)
    · obtain rfl := Option.some.inj ho
      exact kn_dec 8 12 22 26 (by rfl) rfl rfl (by simp) rfl (by kernel_rfl) (by simp) rfl (by kernel_rfl)
    · obtain rfl := Option.some.inj ho
      exact kn_allocD 208 (.agg #[.slice none 0 0, .int .i64 0]) rfl rfl zero_decimal
    · simp at hT
      omega
  · intro u S' w' hp hR fuel listed hsz' hl hf
    obtain rfl := listed_eq hsz' hl
    have eV := hR.1 (13, 27) (by simp); have eN := hR.1 (14, 5) (by simp)
    simp only at eV eN
    have hlow := planE_low hp (by rfl)
    obtain ⟨⟨a3, c3, hr1, hr2, hr3⟩, hrS⟩ := hp.val 13 none (some 8) (DecVal w.heap.size (0 + n) ([] ++ dcells (D.take n)) dp) rfl rfl (live_of (by rfl))
    obtain ⟨⟨M, hn1, hn2, hn3⟩, hnS⟩ := hp.val 14 none none (IsBoxD (Value.agg #[.slice none 0 0, .int .i64 0]).cells 208) rfl rfl (live_of (by rfl))
    rw [hr1] at eV
    rw [hn1] at eN
    have hM0 : w.heap.size ≤ M := (hnS M hn2).1.elim (fun h => h) (fun h => by cases h)
    have hdis : ∀ b, S' 13 b → b ≠ M := fun b hb e => hp.disj 13 14 none (some 8) (DecVal w.heap.size (0 + n) ([] ++ dcells (D.take n)) dp) none none (IsBoxD (Value.agg #[.slice none 0 0, .int .i64 0]).cells 208) rfl rfl rfl rfl (live_of (by rfl)) (live_of (by rfl)) (by decide) b hb (by rw [e]; exact hn2)
    rw [Nat.zero_add, List.nil_append] at hr2
    rw [Nat.zero_add] at eV hr3
    have hdec : DecAt (w'.setRow M #[.slice a3 n c3, .int .i64 dp]) w.heap.size (w'.setRow M #[.slice a3 n c3, .int .i64 dp]).heap.size M a3 c3 (D.take n) dp := by
      have hlen : (D.take n).length = n := by have := HN.out; simp; omega
      refine ⟨?_, ?_, fun g hg => ?_, hM0, by rw [size_setRow]; exact (hnS M hn2).2, Nat.le_refl _⟩
      · rw [hlen]; exact setRow_heap w' M _ _ 208 (0, 0) hn3
      · rw [hlen]; exact row_same hr2 fun g hg => setRow_other _ _ _ _ (hdis g (hr3 g hg))
      · have hS := hr3 g.block (by rw [hg]; rfl)
        exact ⟨hdis _ hS, by rw [size_setRow]; exact (hrS _ hS).2⟩
    have hbel : Below w.heap.size w (w'.setRow M #[.slice a3 n c3, .int .i64 dp]) := ⟨hlow.os, hlow.tape, hlow.output, by rw [size_setRow]; exact hlow.size, fun b hb => (setRow_other w' M b _ (by omega)).trans (hlow.block b hb)⟩
    have TR := Lib.hid (trim_any hdec (by simp; omega))
    have BEL := Lib.hid hbel
    have hu : 1 ≤ fuel := Nat.le_trans (Nat.le_of_ble_eq_true rfl) hf
    clear hf hl hsz' hlow hdis hdec hbel hrS hnS hr2 hr3 hp hR
    refine wpAny_last 15 _ rfl (by kernel_rfl) (by kernel_rfl) rfl (fun K hK => wp_store_row 208 (.tmp 5) (.tmp 27) rfl M #[.slice a3 n c3, .int .i64 dp] eN eV 208 _ hn3 size_dec rfl (by simp [Value.oneCell']) hK) ?_ fuel hu
    simp only [frameOf, frameL, List.zipIdx_cons, List.zipIdx_nil, Act.put, List.setIfInBounds_toArray, List.set_cons_zero, List.set_cons_succ, Nat.zero_add, Nat.reduceAdd]
    rw [hn1]
    go_wp2_with fail
    refine TR.out.mono ?_
    rintro e w3 ⟨rfl, ⟨dp', hd, hdp0, hdp⟩, hb⟩
    have HD3 := Lib.hid (hd.mono hb.size (Nat.le_refl _)); have HDP := Lib.hid hdp; have HDP0 := Lib.hid hdp0; have LOW3 := Lib.hid (BEL.out.trans hb)
    clear hd hdp hdp0 hb
    go_wp2_with fail
    go_ret
    exact ⟨M, rfl, ⟨dp', ⟨_, _, HD3.out⟩, HDP0.out, HDP.out⟩, LOW3.out⟩
end Go.Proofs.YtbdciilkapgfjaaGreatDoor

namespace Go.Proofs.YtbdciilkapgfjaaGreatDoor
open Go.RowKit

/-- One cell of a row of one's own written. -/
theorem row_set {w : World} {base g n c i : Nat} {e : TypeId} {xs : List Value} {v : Value} (h : w.ownsRow base e 1 (.slice (some ⟨g, 0, none⟩) n c) n xs) : (w.setCell ⟨g, i, none⟩ v).ownsRow base e 1 (.slice (some ⟨g, 0, none⟩) n c) n (xs.set i v) := by
  obtain ⟨h0, ⟨h1, _⟩ | ⟨g', c', cur, h1, h2, h3, h4, h5, h6, h7⟩⟩ := h
  · cases h1
  · simp only [Value.slice.injEq, Option.some.injEq, Addr.mk.injEq, and_true, true_and] at h1
    obtain ⟨rfl, rfl⟩ := h1
    refine ⟨by simpa using h0, .inr ⟨g, c, cur.setIfInBounds i v, rfl, h2, heap_setCell_same w ⟨g, i, none⟩ v h3 rfl, h4, h5, by simpa using h6, ?_⟩⟩
    rw [Array.toList_setIfInBounds, List.take_set, h7]
theorem dcells_bump {D : List Nat} {i : Nat} (hi : i < D.length) : (dcells (D.take (i + 1))).set i (.int .u8 ((D.getD i 0 : Nat) + 1 : Int)) = dcells (D.take i ++ [D.getD i 0 + 1]) := by
  have e : D.take (i + 1) = D.take i ++ [D[i]] := by rw [List.take_add_one, List.getElem?_eq_getElem hi]; rfl
  have hl : (dcells (D.take i)).length = i := by rw [dcells_len]; simp; omega
  rw [e, dcells_append, dcells_append, List.set_append_right _ _ (by omega), hl, Nat.sub_self]
  simp [dcells, hi]

set_option maxRecDepth 100000 in
set_option maxHeartbeats 2000000 in
/-- up, where there are more digits. -/
theorem up_any {w : World} {lo hi N cap : Nat} {a : Option Addr} {D : List Nat} {dp : Int} (h : DecAt w lo hi N a cap D dp) (n : Nat) (hn : n < D.length) (hl : D.length < 100) (hD : Norm D) (h1 : -1000 ≤ dp) (h2 : dp ≤ 1000) :
    Calls Tryz.prog 166 #[.pointer (some ⟨N, 0, none⟩), .int .i64 (n : Int)] w fun e w' => ∃ M, e = .returned (.pointer (some ⟨M, 0, none⟩)) ∧ (∃ U up, IsDec w' w.heap.size w'.heap.size M U up ∧ (up = dp ∨ up = dp + 1) ∧ UpOK D dp n U up) ∧ Below w.heap.size w w' := by
  have hin : (Tryz.prog.info? 5).map (fun i => (i.zero, i.size, i.bytes)) = some (some (.int .u8 0), 1, 1) := by kernel_rfl
  obtain ⟨i0, hi0, hz0, hz1, hz2⟩ := info_parts hin
  have J0 := Lib.hid hi0; have J1 := Lib.hid hz0; have J2 := Lib.hid hz1; have J3 := Lib.hid hz2
  clear hi0 hz0 hz1 hz2 hin
  obtain ⟨g, rfl, hc, hcap, hg1, hg2, hg3⟩ := h.arr (by intro e; subst e; simp at hn)
  have c0 := h.c0; have c1 := h.c1
  have H := Lib.hid h; have HC := Lib.hid hc; have HN := Lib.hid hn; have HCAP := Lib.hid hcap; have HD := Lib.hid hD
  have hge : n < D.length := hn
  have NS := Lib.hid (Nat.lt_of_lt_of_le h.high h.size); have GS := Lib.hid (Nat.lt_of_lt_of_le hg1 h.size)
  have hn100 : n < 100 := by omega
  clear h hc hn hcap hD
  go_enter Tryz.func166, Tryz.ntmps166
  go_wp2_with fail
  go_loopw [5] (fun ui wr => ∃ j : Nat, ui = .int .i64 ((j : Int) - 1) ∧ j ≤ n ∧ wr = w ∧ ∀ t, j ≤ t → t < n → D.getD t 0 = 9) (fun ui _ => (intOf ui + 1).toNat)
  case atStart => exact ⟨n, by go_num, Nat.le_refl _, rfl, fun t h1 h2 => by omega⟩
  case round =>
    obtain ⟨j, rfl, hj, rfl, h9⟩ := hrel
    have H9 := Lib.hid h9; have HJ := Lib.hid hj
    clear h9
    rcases Nat.eq_zero_or_pos j with rfl | hjp
    · have UP := Lib.hid (UpOK.of_nines (dp := dp) (Nat.le_of_lt HN.out) (fun t ht => H9.out t (Nat.zero_le _) ht))
      have hdec : DecAt ((wr.alloc (.cells #[.int .u8 1] 5)).alloc (.cells #[.slice (some ⟨wr.heap.size, 0, none⟩) 1 1, .int .i64 (dp + 1)] 208)) wr.heap.size (wr.heap.size + 2) (wr.heap.size + 1) (some ⟨wr.heap.size, 0, none⟩) 1 [1] (dp + 1) := by
        refine ⟨?_, ⟨rfl, .inr ⟨wr.heap.size, 1, #[.int .u8 1], rfl, Nat.le_refl _, ?_, Nat.le_refl _, by unfold maxLen; omega, rfl, rfl⟩⟩, fun g hg => by cases hg; exact ⟨by show wr.heap.size ≠ _; omega, by show wr.heap.size < _; omega⟩, by omega, by omega, by simp⟩
        · have := heap_alloc_at (wr.alloc (.cells #[.int .u8 1] 5)) (.cells #[.slice (some ⟨wr.heap.size, 0, none⟩) 1 1, .int .i64 (dp + 1)] 208)
          rwa [World.size_alloc] at this
        · exact (heap_alloc_old _ _ (by simp)).trans (heap_alloc_at _ _)
      have BEL : Hid (Below wr.heap.size wr ((wr.alloc (.cells #[.int .u8 1] 5)).alloc (.cells #[.slice (some ⟨wr.heap.size, 0, none⟩) 1 1, .int .i64 (dp + 1)] 208))) := Lib.hid (((Below.refl _ _).alloc (Nat.le_refl _) _).alloc (by simp) _)
      have HDEC := Lib.hid hdec
      have bA : Below wr.heap.size wr (wr.alloc (.cells #[.int .u8 1] 5)) := (Below.refl _ _).alloc (Nat.le_refl _) _
      have c1a := (bA.cell (p := ⟨N, 1, none⟩) NS.out).trans c1
      clear hdec hj bA
      go_wp2_with fail
      go_ret
      exact ⟨_, rfl, ⟨_, _, ⟨_, _, HDEC.out.mono (by simp) (Nat.le_refl _)⟩, Or.inr rfl, UP.out⟩, BEL.out⟩
    · obtain ⟨i, rfl⟩ : ∃ i, j = i + 1 := ⟨j - 1, by omega⟩
      have ei : (((i + 1 : Nat) : Int) - 1) = (i : Int) := by omega
      rw [ei]
      clear ei
      have hid : i < D.length := by have := HN.out; omega
      have HIN := Lib.hid (show i + 1 ≤ D.length by omega)
      obtain ⟨d, hdd⟩ : ∃ d, D[i]'hid = d := ⟨_, rfl⟩
      have cj : wr.cell? ⟨g, i, none⟩ = some (.int .u8 (d : Int)) := by rw [← hdd]; exact HC.out i hid
      have hd9 : d < 10 := by rw [← hdd]; exact HD.out.dig _ (List.getElem_mem hid)
      have GD : Hid (D.getD i 0 = d) := Lib.hid (by simp [hid, hdd])
      have hid' : (i : Int) < (D.length : Int) := by omega
      have hi100 : i < 100 := by omega
      clear hdd hj hjp
      by_cases hlt9 : d < 9
      · have e9 : decide ((d : Int) < 9) = true := decide_eq_true (by omega)
        go_upto_region 7 with fail
        obtain ⟨L, hL⟩ : ∃ L : List KnE, L = [.row none wr.heap.size 5 1 0 [], .v (.pointer (some ⟨N, 0, none⟩)), .v (.pointer (some ⟨N, 0, none⟩)), .v (.pointer (some ⟨N, 0, none⟩)), .v (.slice (some ⟨g, 0, none⟩) D.length cap), .v (.int .i64 (i : Int)), .v (.int .i64 ((i + 1 : Nat) : Int)), .v (.slice (some ⟨g, 0, none⟩) (i + 1) cap), .row (some 0) wr.heap.size 5 1 (0 + (i + 1)) ([] ++ dcells (D.take (i + 1))), .v (.pointer (some ⟨N, 0, none⟩)), .v (.pointer (some ⟨N, 0, none⟩)), .v (.pointer (some ⟨N, 1, none⟩)), .v (.int .i64 dp), .gen (some 8) (DecVal wr.heap.size (0 + (i + 1)) ([] ++ dcells (D.take (i + 1))) dp) decVal_st, .gen none (IsBoxD (Value.agg #[.slice none 0 0, .int .i64 0]).cells 208) isBoxD_st] := ⟨_, rfl⟩
        have FAR : ∀ {b : Nat}, ∀ k ∈ L, k.old ≠ some b := by
          intro b k hk
          rw [hL] at hk
          simp only [List.mem_cons, List.not_mem_nil, or_false] at hk
          rcases hk with rfl | rfl | rfl | rfl | rfl | rfl | rfl | rfl | rfl | rfl | rfl | rfl | rfl | rfl | rfl <;> (intro e; cases e)
        subst hL
        refine planK 16 58 [(0, 29), (1, 30), (2, 31), (3, 32), (4, 33), (5, 34), (6, 35), (7, 36), (8, 37), (9, 38), (10, 39), (11, 40), (12, 41), (13, 42), (14, 6)] [(0, .pointer (some ⟨N, 0, none⟩)), (5, .int .i64 (i : Int))] [.row none wr.heap.size 5 1 0 [], .v (.pointer (some ⟨N, 0, none⟩)), .v (.pointer (some ⟨N, 0, none⟩)), .v (.pointer (some ⟨N, 0, none⟩)), .v (.slice (some ⟨g, 0, none⟩) D.length cap), .v (.int .i64 (i : Int)), .v (.int .i64 ((i + 1 : Nat) : Int)), .v (.slice (some ⟨g, 0, none⟩) (i + 1) cap), .row (some 0) wr.heap.size 5 1 (0 + (i + 1)) ([] ++ dcells (D.take (i + 1))), .v (.pointer (some ⟨N, 0, none⟩)), .v (.pointer (some ⟨N, 0, none⟩)), .v (.pointer (some ⟨N, 1, none⟩)), .v (.int .i64 dp), .gen (some 8) (DecVal wr.heap.size (0 + (i + 1)) ([] ++ dcells (D.take (i + 1))) dp) decVal_st, .gen none (IsBoxD (Value.agg #[.slice none 0 0, .int .i64 0]).cells 208) isBoxD_st] (by kernel_rfl) (by kernel_rfl) rfl ?_ (by kernel_rfl) (by rfl) (by simp) ?_ (by kernel_rfl) ?_ ?_
        · intro p hp
          simp only [List.mem_cons, List.not_mem_nil, or_false] at hp
          rcases hp with rfl | rfl <;> rfl
        · intro k hk b hb
          exact absurd hb (FAR k hk)
        · intro i' o ho hT
          rcases i' with _ | _ | _ | _ | _ | _ | _ | _ | _ | _ | _ | _ | _ | _ | _ | i'
          · obtain rfl := Option.some.inj ho
            exact kn_build0D 105 rfl rfl (Nat.le_refl _) build_bytes0
          · obtain rfl := Option.some.inj ho
            exact kn_move 0 (by rfl) rfl rfl (by simp)
          · obtain rfl := Option.some.inj ho
            exact kn_run1 1 30 (by rfl) rfl (by simp) rfl (by kernel_rfl) (fun b w e => run_nilCheck rfl e w)
          · obtain rfl := Option.some.inj ho
            exact kn_field1 208 0 2 31 (by rfl) rfl rfl (by simp) rfl (by kernel_rfl) (fieldDec0 _)
          · obtain rfl := Option.some.inj ho
            exact kn_load 105 3 32 (by rfl) rfl rfl (by simp) rfl (by kernel_rfl) c0 NS.out FAR (load_bytes _ _ _)
          · obtain rfl := Option.some.inj ho
            exact kn_move 5 (by rfl) rfl rfl (by simp)
          · obtain rfl := Option.some.inj ho
            exact kn_add1 (by omega) 5 34 (by rfl) rfl rfl (by simp) rfl (by kernel_rfl)
          · obtain rfl := Option.some.inj ho
            exact kn_run2 4 6 33 35 (by rfl) rfl (by simp) rfl (by kernel_rfl) (by simp) rfl (by kernel_rfl) (fun b w e1 e2 => run_sliceD rfl HIN.out HCAP.out e1 e2 w)
          · obtain rfl := Option.some.inj ho
            exact kn_app1 (inf := i0) (bytes := 1) 105 0 29 (.tmp 36) rfl rfl (by simp) rfl (by kernel_rfl) (src_old 7 36 (by rfl) (by simp) rfl (by kernel_rfl) (src_dec HC.out HIN.out) (fun w' hk hs => hs.keep (B := g) (fun ad n c e => by cases e; rfl) (hk g GS.out FAR))) Tryz.underlying105 J0.out J1.out J2.out J3.out rfl Nat.one_pos bytes_one (by unfold maxLen; omega) (by omega) (Nat.le_refl _)
          · obtain rfl := Option.some.inj ho
            exact kn_move 0 (by rfl) rfl rfl (by simp)
          · obtain rfl := Option.some.inj ho
            exact kn_run1 9 38 (by rfl) rfl (by simp) rfl (by kernel_rfl) (fun b w e => run_nilCheck rfl e w)
          · obtain rfl := Option.some.inj ho
            exact kn_field1 208 1 10 39 (by rfl) rfl rfl (by simp) rfl (by kernel_rfl) (fieldDec1 _)
          · obtain rfl := Option.some.inj ho
            exact kn_load 3 11 40 (by rfl) rfl rfl (by simp) rfl (by kernel_rfl) c1 NS.out FAR (loadInt _ _ _)
          · obtain rfl := Option.some.inj ho
            exact kn_dec 8 12 37 41 (by rfl) rfl rfl (by simp) rfl (by kernel_rfl) (by simp) rfl (by kernel_rfl)
          · obtain rfl := Option.some.inj ho
            exact kn_allocD 208 (.agg #[.slice none 0 0, .int .i64 0]) rfl rfl zero_decimal
          · simp at hT
            omega
        · intro u S' w' hp hR fuel listed hsz' hl hf
          obtain rfl := listed_eq hsz' hl
          have eV := hR.1 (13, 42) (by simp); have eN := hR.1 (14, 6) (by simp)
          simp only at eV eN
          have hlow := planE_low hp (by rfl)
          obtain ⟨⟨a3, c3, hr1, hr2, hr3⟩, hrS⟩ := hp.val 13 none (some 8) (DecVal wr.heap.size (0 + (i + 1)) ([] ++ dcells (D.take (i + 1))) dp) rfl rfl (live_of (by rfl))
          obtain ⟨⟨M, hn1, hn2, hn3⟩, hnS⟩ := hp.val 14 none none (IsBoxD (Value.agg #[.slice none 0 0, .int .i64 0]).cells 208) rfl rfl (live_of (by rfl))
          rw [hr1] at eV
          rw [hn1] at eN
          have hM0 : wr.heap.size ≤ M := (hnS M hn2).1.elim (fun h => h) (fun h => by cases h)
          have hdis : ∀ b, S' 13 b → b ≠ M := fun b hb e => hp.disj 13 14 none (some 8) (DecVal wr.heap.size (0 + (i + 1)) ([] ++ dcells (D.take (i + 1))) dp) none none (IsBoxD (Value.agg #[.slice none 0 0, .int .i64 0]).cells 208) rfl rfl rfl rfl (live_of (by rfl)) (live_of (by rfl)) (by decide) b hb (by rw [e]; exact hn2)
          rw [Nat.zero_add, List.nil_append] at hr2
          rw [Nat.zero_add] at eV hr3
          have hdec : DecAt (w'.setRow M #[.slice a3 (i + 1) c3, .int .i64 dp]) wr.heap.size (w'.setRow M #[.slice a3 (i + 1) c3, .int .i64 dp]).heap.size M a3 c3 (D.take (i + 1)) dp := by
            have hlen : (D.take (i + 1)).length = i + 1 := by have := HIN.out; simp; omega
            refine ⟨?_, ?_, fun g hg => ?_, hM0, by rw [size_setRow]; exact (hnS M hn2).2, Nat.le_refl _⟩
            · rw [hlen]; exact setRow_heap w' M _ _ 208 (0, 0) hn3
            · rw [hlen]; exact row_same hr2 fun g hg => setRow_other _ _ _ _ (hdis g (hr3 g hg))
            · have hS := hr3 g.block (by rw [hg]; rfl)
              exact ⟨hdis _ hS, by rw [size_setRow]; exact (hrS _ hS).2⟩
          have hbel : Below wr.heap.size wr (w'.setRow M #[.slice a3 (i + 1) c3, .int .i64 dp]) := ⟨hlow.os, hlow.tape, hlow.output, by rw [size_setRow]; exact hlow.size, fun b hb => (setRow_other w' M b _ (by omega)).trans (hlow.block b hb)⟩
          have hu : 1 ≤ fuel := Nat.le_trans (Nat.le_of_ble_eq_true rfl) hf
          obtain ⟨W3, hW3⟩ : ∃ W3, W3 = w'.setRow M #[.slice a3 (i + 1) c3, .int .i64 dp] := ⟨_, rfl⟩
          rw [← hW3] at hdec hbel
          have hlen3 : (D.take (i + 1)).length = i + 1 := by have := HIN.out; simp; omega
          obtain ⟨g3, rfl, hc3, hcap3, hg31, hg32, hg33⟩ := hdec.arr (by intro e; rw [e] at hlen3; simp at hlen3)
          have d0 := hdec.c0
          rw [hlen3] at d0
          have e3 : W3.cell? ⟨g3, i, none⟩ = some (.int .u8 (d : Int)) := by
            rw [hc3 i (by omega)]
            have := GD.out
            simp [hid] at this
            simp [this]
          have f3 : W3.frozen? ⟨g3, i, none⟩ = false := by
            rcases hdec.row.2 with ⟨h, _⟩ | ⟨g', c', cur, h, _, hh, _⟩
            · cases h
            · cases h; exact Lib.frozen_of_heap hh i
          have hset := row_set (i := i) (v := .int .u8 ((d : Int) + 1)) hdec.row
          have hb := dcells_bump hid
          rw [GD.out] at hb
          rw [hb] at hset
          have hl2 : (D.take i ++ [d + 1]).length = (D.take (i + 1)).length := by rw [hlen3, List.length_append, List.length_take]; simp; omega
          have hfin : DecAt (W3.setCell ⟨g3, i, none⟩ (.int .u8 ((d : Int) + 1))) wr.heap.size (W3.setCell ⟨g3, i, none⟩ (.int .u8 ((d : Int) + 1))).heap.size M (some ⟨g3, 0, none⟩) c3 (D.take i ++ [d + 1]) dp := by
            refine ⟨?_, by rw [hl2]; exact hset, fun g hg => by cases hg; exact ⟨hg32, by simpa [World.setCell] using hg31⟩, hM0, by simpa [World.setCell] using hdec.high, Nat.le_refl _⟩
            rw [hl2]
            exact (Below.heap_setCell _ _ _ _ (Ne.symm hg32)).trans hdec.blk
          have FIN := Lib.hid hfin
          have BEL := Lib.hid (hbel.setCell (p := ⟨g3, i, none⟩) hg33 (.int .u8 ((d : Int) + 1)))
          clear hf hl hsz' hlow hdis hdec hbel hrS hnS hr2 hr3 hp hR hset hb hl2 hfin hc3 hlen3
          refine wpAny_last 15 _ rfl (by kernel_rfl) (by kernel_rfl) rfl (fun K hK => wp_store_row 208 (.tmp 6) (.tmp 42) rfl M #[.slice (some ⟨g3, 0, none⟩) (i + 1) c3, .int .i64 dp] eN eV 208 _ hn3 size_dec rfl (by simp [Value.oneCell']) hK) ?_ fuel hu
          rw [← hW3]
          simp only [frameOf, frameL, List.zipIdx_cons, List.zipIdx_nil, Act.put, List.setIfInBounds_toArray, List.set_cons_zero, List.set_cons_succ, Nat.zero_add, Nat.reduceAdd]
          rw [hn1]
          clear hW3
          go_wp2_with fail
          go_ret
          exact ⟨M, rfl, ⟨_, _, ⟨_, _, FIN.out⟩, Or.inl rfl, by have := UpOK.of_digit (dp := dp) HD.out (n := n) (by have := HJ.out; omega) (Nat.le_of_lt HN.out) H9.out (by rw [GD.out]; exact hlt9); rw [GD.out] at this; exact this⟩, BEL.out⟩
      · have e9 : decide ((d : Int) < 9) = false := decide_eq_false (by omega)
        obtain rfl : d = 9 := by omega
        go_wp2_with fail
        go_roundw
        case rel =>
          refine ⟨i, rfl, by have := HJ.out; omega, trivial, fun t h1 h2 => ?_⟩
          rcases Nat.eq_or_lt_of_le h1 with rfl | h
          · exact GD.out
          · exact H9.out t h h2
        case measure => simp [intOf]
end Go.Proofs.YtbdciilkapgfjaaGreatDoor

namespace Go.Proofs.YtbdciilkapgfjaaGreatDoor
open Go.RowKit

/-- A whole number divided by a power of two, as shift leaves it. -/
structure Edge (v s : Nat) (E : List Nat) (ep : Int) : Prop where
  norm : Norm E
  ne : E ≠ []
  len : E.length < 190
  b1 : -1000 ≤ ep
  b2 : ep ≤ 1000
  eq : ∀ K : Nat, 200 ≤ K → (E.length : Int) ≤ K + ep ∧ scaled K E ep * 2 ^ s = v * 10 ^ K
theorem HalfOK.edge {v s : Nat} {E : List Nat} {ep : Int} (h : HalfOK (trimD (digs v)) ((digs v).length : Int) s E ep) (hv : v < 10 ^ 20) (hs : s ≤ 59) : Edge v s E ep := by
  have hl : (digs v).length ≤ 20 := digs_len (by decide) hv
  have ht := (trimD_val (digs v)).2
  have h1 := h.len; have h2 := h.lo; have h3 := h.hi
  refine ⟨h.norm, h.ne, by omega, by omega, by omega, fun K hK => ?_⟩
  obtain ⟨e1, e2⟩ := h.eq K (by omega)
  exact ⟨e1, by rw [e2, digs_scaled]⟩
theorem newNorm {v : Nat} (hv : v ≠ 0) : Norm (trimD (digs v)) ∧ trimD (digs v) ≠ [] :=
  ⟨trimD_norm (digs_dig v) (digs_fst hv), trimD_ne (digs_ne v) (digs_fst hv)⟩

theorem shift_new {w : World} {lo hi N v s : Nat} {dp : Int} (h : IsDec w lo hi N (trimD (digs v)) dp) (hdp : trimD (digs v) ≠ [] → dp = ((digs v).length : Int)) (hv : v < 10 ^ 20) (hv0 : v ≠ 0) (hs : s ≤ 59) (hs1 : 1 ≤ s) :
    Calls Tryz.prog 125 #[.pointer (some ⟨N, 0, none⟩), .int .i64 (-(s : Int))] w fun e w' => e = .returned (.tuple #[]) ∧ (∃ E ep, IsDec w' lo w'.heap.size N E ep ∧ Edge v s E ep) ∧ Below lo w w' := by
  obtain ⟨a, cap, h⟩ := h
  obtain ⟨n1, n2⟩ := newNorm hv0
  have e := hdp n2
  subst e
  have hl : (digs v).length ≤ 20 := digs_len (by decide) hv
  have ht := (trimD_val (digs v)).2
  refine (shift_any h s hs hs1 n1 n2 (by omega) (by omega) (by omega)).mono ?_
  rintro e w' ⟨rfl, ⟨E, ep, hd, ok⟩, hb⟩
  exact ⟨rfl, ⟨E, ep, hd, ok.edge hv hs⟩, hb⟩

theorem IsDec.keep {w w' : World} {lo hi N : Nat} {D : List Nat} {dp : Int} (h : IsDec w lo hi N D dp) (hb : Below hi w w') : IsDec w' lo hi N D dp := by
  obtain ⟨a, cap, h⟩ := h
  exact ⟨a, cap, h.keep hb⟩
theorem IsDec.size {w : World} {lo hi N : Nat} {D : List Nat} {dp : Int} (h : IsDec w lo hi N D dp) : hi ≤ w.heap.size := by
  obtain ⟨a, cap, h⟩ := h
  exact h.size
/-- The edge below, in either way. -/
structure LowEdge (M s : Nat) (E : List Nat) (ep : Int) : Prop where
  norm : Norm E
  ne : E ≠ []
  len : E.length < 190
  b1 : -1000 ≤ ep
  b2 : ep ≤ 1000
  eq : ∀ K : Nat, 200 ≤ K → (E.length : Int) ≤ K + ep ∧ (scaled K E ep * 2 ^ (s + 1) = (2 * M - 1) * 10 ^ K ∨ scaled K E ep * 2 ^ (s + 2) = (4 * M - 1) * 10 ^ K)
theorem Edge.low2 {M s : Nat} {E : List Nat} {ep : Int} (h : Edge (2 * M - 1) (s + 1) E ep) : LowEdge M s E ep := ⟨h.norm, h.ne, h.len, h.b1, h.b2, fun K hK => ⟨(h.eq K hK).1, Or.inl (h.eq K hK).2⟩⟩
theorem Edge.low4 {M s : Nat} {E : List Nat} {ep : Int} (h : Edge (4 * M - 1) (s + 2) E ep) : LowEdge M s E ep := ⟨h.norm, h.ne, h.len, h.b1, h.b2, fun K hK => ⟨(h.eq K hK).1, Or.inr (h.eq K hK).2⟩⟩
theorem hdd_keep {w w' : World} {lo N : Nat} {D : List Nat} {dp : Int} (h : IsDec w lo w.heap.size N D dp) (hb : Below w.heap.size w w') : IsDec w' lo w.heap.size N D dp := h.keep hb
theorem take_fst {D : List Nat} {n : Nat} (h : ∀ d, D.head? = some d → d ≠ 0) : ∀ d, (D.take n).head? = some d → d ≠ 0 := by
  intro d hd
  cases n with
  | zero => simp at hd
  | succ n =>
    cases D with
    | nil => simp at hd
    | cons x l => simp at hd; exact h d (by simp [hd])
/-- The two tests of a round fail. -/
theorem test_down {k s M n : Nat} {E : List Nat} {ep dp' i : Int} (hM : M * 2 = (2 * k + 1) * 2 ^ s) (hs : 1 ≤ s) (hn : n < (digs (10 * k + 5)).length) (h20 : (digs (10 * k + 5)).length ≤ 20) (hdp0 : dp' = ((digs (10 * k + 5)).length - 1 : Int) ∨ dp' = 0) (hdp : trimD ((digs (10 * k + 5)).take n) ≠ [] → dp' = ((digs (10 * k + 5)).length - 1 : Int))
    (hE : LowEdge M s E ep) (ok : CmpOK E ep (trimD ((digs (10 * k + 5)).take n)) dp' i) : 1 ≤ i := by
  have h1 := (hE.eq 200 (Nat.le_refl _))
  have hl := (trimD_val ((digs (10 * k + 5)).take n)).2
  refine ok 200 h1.1 ?_ (short_down hM hs hn hdp h1.2)
  rw [List.length_take] at hl
  rcases hdp0 with h | h <;> omega
theorem test_up {k s M n : Nat} {E U : List Nat} {ep up i : Int} (hM : M * 2 = (2 * k + 1) * 2 ^ s) (hs : 1 ≤ s) (hn : n < (digs (10 * k + 5)).length) (hU : UpOK (digs (10 * k + 5)) ((digs (10 * k + 5)).length - 1 : Int) n U up)
    (hE : Edge (2 * M + 1) (s + 1) E ep) (ok : CmpOK U up E ep i) : 1 ≤ i := by
  have h1 := (hE.eq 200 (Nat.le_refl _))
  exact ok 200 (hU.le 200 (by omega)) h1.1 (short_up hM hs hn hU h1.2)

set_option maxRecDepth 100000 in
set_option maxHeartbeats 4000000 in
/-- short, of half an odd number: all digits are kept. -/
theorem short_half {w : World} {lo hi N cap k M s : Nat} {a : Option Addr} {x : Int} (h : DecAt w lo hi N a cap (digs (10 * k + 5)) ((digs (10 * k + 5)).length - 1 : Int)) (hk : k ≤ 10000000000000000) (hM : M * 2 = (2 * k + 1) * 2 ^ s) (hs : 1 ≤ s) (hs2 : s ≤ 57)
    (hM1 : 4503599627370496 ≤ M) (hM2 : M < 9007199254740992) (hM0 : M % 2 = 0) (hx : x = 52 - (s : Int)) :
    Calls Tryz.prog 126 #[.pointer (some ⟨N, 0, none⟩), .int .u64 (M : Int), .int .i64 x, .agg #[.int .i64 52, .int .i64 11, .int .i64 (-1023)]] w fun e w' => e = .returned (.pointer (some ⟨N, 0, none⟩)) ∧ Below w.heap.size w w' := by
  have HH := Lib.hid h
  have x1 : x - 52 - 1 = -((s + 1 : Nat) : Int) := by omega
  have x2 : x - 52 - 2 = -((s + 2 : Nat) : Int) := by omega
  have xb1 : -5 ≤ x := by omega
  have xb2 : x ≤ 51 := by omega
  have ND1 : Hid (∀ w', Calls Tryz.prog 124 #[.int .u64 (2 * (M : Int) + 1)] w' fun e w'' => ∃ N, e = .returned (.pointer (some ⟨N, 0, none⟩)) ∧ (∃ dp, IsDec w'' w'.heap.size w''.heap.size N (trimD (digs (2 * M + 1))) dp ∧ (trimD (digs (2 * M + 1)) ≠ [] → dp = ((digs (2 * M + 1)).length : Int))) ∧ Below w'.heap.size w' w'') := Lib.hid (fun w' => by
    have := newDecimal_any (2 * M + 1) (by omega) w'
    rwa [show ((2 * M + 1 : Nat) : Int) = 2 * (M : Int) + 1 by omega] at this)
  have ND2 : Hid (∀ w', Calls Tryz.prog 124 #[.int .u64 (2 * (M : Int) - 1)] w' fun e w'' => ∃ N, e = .returned (.pointer (some ⟨N, 0, none⟩)) ∧ (∃ dp, IsDec w'' w'.heap.size w''.heap.size N (trimD (digs (2 * M - 1))) dp ∧ (trimD (digs (2 * M - 1)) ≠ [] → dp = ((digs (2 * M - 1)).length : Int))) ∧ Below w'.heap.size w' w'') := Lib.hid (fun w' => by
    have := newDecimal_any (2 * M - 1) (by omega) w'
    rwa [show ((2 * M - 1 : Nat) : Int) = 2 * (M : Int) - 1 by omega] at this)
  have ND4 : Hid (∀ w', Calls Tryz.prog 124 #[.int .u64 (4 * (M : Int) - 1)] w' fun e w'' => ∃ N, e = .returned (.pointer (some ⟨N, 0, none⟩)) ∧ (∃ dp, IsDec w'' w'.heap.size w''.heap.size N (trimD (digs (4 * M - 1))) dp ∧ (trimD (digs (4 * M - 1)) ≠ [] → dp = ((digs (4 * M - 1)).length : Int))) ∧ Below w'.heap.size w' w'') := Lib.hid (fun w' => by
    have := newDecimal_any (4 * M - 1) (by omega) w'
    rwa [show ((4 * M - 1 : Nat) : Int) = 4 * (M : Int) - 1 by omega] at this)
  have hm0 : ((M : Int) == 0) = false := by simp; omega
  have hme : (((M : Int) % 2) == 0) = true := by simp; omega
  have MM := Lib.hid hM; have SS := Lib.hid (And.intro hs hs2); have X1 := Lib.hid x1; have X2 := Lib.hid x2
  have M0 := Lib.hid (And.intro hM1 hM2)
  obtain ⟨w0, hw0⟩ : ∃ w0, w0 = w.alloc (.cells #[.int .i64 52, .int .i64 11, .int .i64 (-1023)] 201) := ⟨_, rfl⟩
  have F0 : Hid (w0.heap[w.heap.size]? = some (.cells #[.int .i64 52, .int .i64 11, .int .i64 (-1023)] 201 (0, 0)) ∧ Below w.heap.size w w0 ∧ w0.heap.size = w.heap.size + 1) := Lib.hid (by rw [hw0]; exact ⟨heap_alloc_at _ _, (Below.refl _ _).alloc (Nat.le_refl _) _, by simp⟩)
  clear h hM hx x1 x2 hM0 hs hs2
  go_enter Tryz.func126, Tryz.ntmps126
  go_wp2_with fail
  rw [← hw0]
  clear hw0
  refine (ND1.out _).mono ?_
  rintro e w1 ⟨NH, rfl, ⟨dp1, hd1, hdp1⟩, hb1⟩
  have f1 := (hb1.block w.heap.size (by have := F0.out.2.2; omega)).trans F0.out.1
  have g0 : w1.cell? ⟨w.heap.size, 0, none⟩ = some (.int .i64 52) := by rw [Lib.cell_of_heap f1]; rfl
  have SH1 := Lib.hid (shift_new (s := s + 1) hd1 hdp1 (by have := M0.out; omega) (by omega) (by have := SS.out; omega) (by omega))
  rw [← X1.out] at SH1
  have HB1 := Lib.hid hb1; have FF1 := Lib.hid f1
  clear hd1 hdp1 hb1 f1
  go_wp2_with fail
  refine SH1.out.mono ?_
  rintro e w2 ⟨rfl, ⟨EH, eph, hdH, edH⟩, hb2⟩
  have HDH := Lib.hid hdH; have EDH := Lib.hid edH; have HB2 := Lib.hid (HB1.out.trans hb2)
  have FF2 := Lib.hid ((hb2.block w.heap.size (by have := F0.out.2.2; omega)).trans FF1.out)
  clear hdH edH hb2
  go_wp2_with fail
  refine (ND2.out _).mono ?_
  rintro e w3 ⟨NL, rfl, ⟨dp3, hd3, hdp3⟩, hb3⟩
  have sz02 := HB2.out.size
  have f3 := (hb3.block w.heap.size (by have := F0.out.2.2; omega)).trans FF2.out
  have g3 : w3.cell? ⟨w.heap.size, 0, none⟩ = some (.int .i64 52) := by rw [Lib.cell_of_heap f3]; rfl
  have SH3 := Lib.hid (shift_new (s := s + 1) hd3 hdp3 (by have := M0.out; omega) (by omega) (by have := SS.out; omega) (by omega))
  rw [← X1.out] at SH3
  have HB3 := Lib.hid hb3; have FF3 := Lib.hid f3
  clear hd3 hdp3 hb3 f3
  go_wp2_with fail
  refine SH3.out.mono ?_
  rintro e w4 ⟨rfl, ⟨EL, epl, hdL, edL⟩, hb4⟩
  have f4 := (hb4.block w.heap.size (by have := F0.out.2.2; omega)).trans FF3.out
  have g4 : w4.cell? ⟨w.heap.size, 0, none⟩ = some (.int .i64 52) := by rw [Lib.cell_of_heap f4]; rfl
  have g42 : w4.cell? ⟨w.heap.size, 2, none⟩ = some (.int .i64 (-1023)) := by rw [Lib.cell_of_heap f4]; rfl
  have HB4 := Lib.hid (HB3.out.trans hb4)
  have FF4 := Lib.hid f4
  have HIGH4 := Lib.hid (HDH.out.keep HB4.out)
  have sz24 := HB4.out.size
  have LOWD := Lib.hid hdL; have LOWE := Lib.hid edL
  clear hdL edL hb4 f4
  by_cases hpow : M = 4503599627370496
  · have hq : ((M : Int) == 4503599627370496) = true := by rw [hpow]; rfl
    have HPW := Lib.hid hpow
    clear hpow
    go_wp2_with fail
    refine (ND4.out _).mono ?_
    rintro e w5a ⟨NQ, rfl, ⟨dp5, hd5, hdp5⟩, hb5⟩
    have f5 := (hb5.block w.heap.size (by have := F0.out.2.2; omega)).trans FF4.out
    have g5 : w5a.cell? ⟨w.heap.size, 0, none⟩ = some (.int .i64 52) := by rw [Lib.cell_of_heap f5]; rfl
    have SH5 := Lib.hid (shift_new (s := s + 2) hd5 hdp5 (by have := M0.out; omega) (by omega) (by have := SS.out; omega) (by omega))
    rw [← X2.out] at SH5
    have HB5 := Lib.hid hb5
    clear hd5 hdp5 hb5 f5
    go_wp2_with fail
    refine SH5.out.mono ?_
    rintro e w6a ⟨rfl, ⟨EQ, epq, hdQ, edQ⟩, hb6⟩
    have HB6 := Lib.hid (HB5.out.trans hb6)
    have LOW := Lib.hid hdQ
    have LED := Lib.hid edQ.low4
    have LOWS := Lib.hid LOW.out.size
    have HIGH := Lib.hid (HIGH4.out.keep (HB6.out.mono sz24))
    have HIGHS := Lib.hid (Nat.le_trans sz24 HB6.out.size)
    have BW : Hid (Below w.heap.size w w6a) := Lib.hid ((F0.out.2.1.trans ((HB2.out.mono (by have := F0.out.2.2; omega)).trans (HB4.out.mono (by have := F0.out.2.2; omega)))).trans (HB6.out.mono (by have := F0.out.2.2; omega)))
    clear hdQ edQ hb6
    have HA : Hid (DecAt w6a lo hi N a cap (digs (10 * k + 5)) ((digs (10 * k + 5)).length - 1 : Int)) := Lib.hid (HH.out.keep (BW.out.mono HH.out.size))
    have HI := HH.out.size
    have HIW := BW.out.size
    have h20 : (digs (10 * k + 5)).length ≤ 20 := digs_len (by decide) (by omega)
    have c0 := HA.out.c0
    go_wp2_with fail
    go_loopw [12] (fun ui wr => ∃ j : Nat, ui = .int .i64 (j : Int) ∧ j ≤ (digs (10 * k + 5)).length ∧ Below w6a.heap.size w6a wr) (fun ui _ => (digs (10 * k + 5)).length - (intOf ui).toNat)
    case atStart => exact ⟨0, rfl, Nat.zero_le _, Below.refl _ _⟩
    case round =>
      obtain ⟨j, rfl, hj, hb⟩ := hrel
      have HB := Lib.hid hb
      have hA := HA.out.keep (hb.mono (Nat.le_trans HI HIW))
      have c0 := hA.c0
      have HAR := Lib.hid hA
      by_cases hlt : j < (digs (10 * k + 5)).length
      · have t1 : decide ((j : Int) < ((digs (10 * k + 5)).length : Int)) = true := decide_eq_true (by omega)
        have HLT := Lib.hid hlt
        clear hb hA hj hlt
        have hj20 : j < 20 := by have := HLT.out; omega
        go_wp2_with fail
        refine (down_any HAR.out j HLT.out (by omega)).mono ?_
        rintro e w5 ⟨M1, rfl, ⟨dpd, hdd, hdd0, hdd2⟩, hb5⟩
        have BL5 := Lib.hid hb5; have DD := Lib.hid hdd; have DD0 := Lib.hid hdd0; have DD2 := Lib.hid hdd2
        have hA5 := HAR.out.keep (hb5.mono (Nat.le_trans (Nat.le_trans HI HIW) HB.out.size))
        have HA5 := Lib.hid hA5
        clear hb5 hdd hdd0 hdd2 hA5
        go_wp2_with fail
        refine (up_any HA5.out j HLT.out (by omega) (digs_norm (by omega)) (by omega) (by omega)).mono ?_
        rintro e w6 ⟨M2, rfl, ⟨U, up, hdu, hup, uok⟩, hb6⟩
        have BL6 := Lib.hid hb6; have DU := Lib.hid hdu; have HUP := Lib.hid hup; have UOK := Lib.hid uok
        have hs5 := BL5.out.size
        have hs6 := hb6.size
        have hsr := HB.out.size
        have low6 := LOW.out.keep ((HB.out.mono LOWS.out).trans ((BL5.out.mono (Nat.le_trans LOWS.out hsr)).trans (hb6.mono (Nat.le_trans (Nat.le_trans LOWS.out hsr) hs5))))
        have dn6 := hdd_keep DD.out hb6
        have LOW6 := Lib.hid low6; have DN6 := Lib.hid dn6
        clear hb6 hdu hup uok low6 dn6
        go_wp2_with fail
        obtain ⟨aL, cL, hL6⟩ := LOW6.out
        obtain ⟨aD, cD, hD6⟩ := DN6.out
        refine (cmp_any hL6 hD6 LED.out.norm.dig (trimD_norm (fun d hd => digs_dig _ d (List.mem_of_mem_take hd)) (fun d hd => take_fst (digs_fst (by omega)) d hd)) (by have := LED.out.len; omega) (by have := (trimD_val ((digs (10 * k + 5)).take j)).2; rw [List.length_take] at this; omega) (by have := LED.out.b1; omega) (by have := LED.out.b2; omega) (by rcases DD0.out with h | h <;> omega) (by rcases DD0.out with h | h <;> omega)).mono ?_
        rintro e w7 ⟨i1, rfl, ok1, hb7⟩
        have g1 := test_down MM.out SS.out.1 HLT.out h20 DD0.out DD2.out LED.out ok1
        have t2 : decide (i1 < 1) = false := decide_eq_false (by omega)
        have hig7 := HIGH.out.keep ((HB.out.mono HIGHS.out).trans ((BL5.out.mono (Nat.le_trans HIGHS.out hsr)).trans ((BL6.out.mono (Nat.le_trans (Nat.le_trans HIGHS.out hsr) hs5)).trans (hb7.mono (Nat.le_trans (Nat.le_trans (Nat.le_trans HIGHS.out hsr) hs5) hs6)))))
        have up7 := DU.out.keep hb7
        have BL7 := Lib.hid hb7; have HIG7 := Lib.hid hig7; have UP7 := Lib.hid up7
        clear hL6 hD6 ok1 g1 hb7 hig7 up7
        go_wp2_with fail
        obtain ⟨aH, cH, hH7⟩ := HIG7.out
        obtain ⟨aU, cU, hU7⟩ := UP7.out
        refine (cmp_any hU7 hH7 UOK.out.norm.dig EDH.out.norm (by have := UOK.out.len; omega) (by have := EDH.out.len; omega) (by rcases HUP.out with h | h <;> omega) (by rcases HUP.out with h | h <;> omega) (by have := EDH.out.b1; omega) (by have := EDH.out.b2; omega)).mono ?_
        rintro e w8 ⟨i2, rfl, ok2, hb8⟩
        have g2 := test_up MM.out SS.out.1 HLT.out UOK.out EDH.out ok2
        have t3 : decide (i2 < 1) = false := decide_eq_false (by omega)
        have hs7 := BL7.out.size
        have FIN := Lib.hid (HB.out.trans ((BL5.out.mono hsr).trans ((BL6.out.mono (Nat.le_trans hsr hs5)).trans ((BL7.out.mono (Nat.le_trans (Nat.le_trans hsr hs5) hs6)).trans (hb8.mono (Nat.le_trans (Nat.le_trans (Nat.le_trans hsr hs5) hs6) hs7))))))
        clear hH7 hU7 ok2 g2 hb8
        go_wp2_with fail
        go_roundw
        case rel => exact ⟨j + 1, by go_num, by have := HLT.out; omega, FIN.out⟩
        case measure => simp [intOf]; have := HLT.out; omega
      · have t1 : decide ((j : Int) < ((digs (10 * k + 5)).length : Int)) = false := decide_eq_false (by omega)
        have hle := Nat.le_of_not_lt hlt
        clear hb hA hlt
        go_wp2_with fail
        go_ret
        exact ⟨rfl, BW.out.trans (HB.out.mono HIW)⟩
  · have hq : ((M : Int) == 4503599627370496) = false := by simp; omega
    have LOW := LOWD
    have LED := Lib.hid LOWE.out.low2
    have LOWS := Lib.hid LOW.out.size
    have HIGH := HIGH4
    have HIGHS := Lib.hid sz24
    have BW : Hid (Below w.heap.size w w4) := Lib.hid (F0.out.2.1.trans ((HB2.out.mono (by have := F0.out.2.2; omega)).trans (HB4.out.mono (by have := F0.out.2.2; omega))))
    clear hpow
    have HA : Hid (DecAt w4 lo hi N a cap (digs (10 * k + 5)) ((digs (10 * k + 5)).length - 1 : Int)) := Lib.hid (HH.out.keep (BW.out.mono HH.out.size))
    have HI := HH.out.size
    have HIW := BW.out.size
    have h20 : (digs (10 * k + 5)).length ≤ 20 := digs_len (by decide) (by omega)
    have c0 := HA.out.c0
    go_wp2_with fail
    go_loopw [12] (fun ui wr => ∃ j : Nat, ui = .int .i64 (j : Int) ∧ j ≤ (digs (10 * k + 5)).length ∧ Below w4.heap.size w4 wr) (fun ui _ => (digs (10 * k + 5)).length - (intOf ui).toNat)
    case atStart => exact ⟨0, rfl, Nat.zero_le _, Below.refl _ _⟩
    case round =>
      obtain ⟨j, rfl, hj, hb⟩ := hrel
      have HB := Lib.hid hb
      have hA := HA.out.keep (hb.mono (Nat.le_trans HI HIW))
      have c0 := hA.c0
      have HAR := Lib.hid hA
      by_cases hlt : j < (digs (10 * k + 5)).length
      · have t1 : decide ((j : Int) < ((digs (10 * k + 5)).length : Int)) = true := decide_eq_true (by omega)
        have HLT := Lib.hid hlt
        clear hb hA hj hlt
        have hj20 : j < 20 := by have := HLT.out; omega
        go_wp2_with fail
        refine (down_any HAR.out j HLT.out (by omega)).mono ?_
        rintro e w5 ⟨M1, rfl, ⟨dpd, hdd, hdd0, hdd2⟩, hb5⟩
        have BL5 := Lib.hid hb5; have DD := Lib.hid hdd; have DD0 := Lib.hid hdd0; have DD2 := Lib.hid hdd2
        have hA5 := HAR.out.keep (hb5.mono (Nat.le_trans (Nat.le_trans HI HIW) HB.out.size))
        have HA5 := Lib.hid hA5
        clear hb5 hdd hdd0 hdd2 hA5
        go_wp2_with fail
        refine (up_any HA5.out j HLT.out (by omega) (digs_norm (by omega)) (by omega) (by omega)).mono ?_
        rintro e w6 ⟨M2, rfl, ⟨U, up, hdu, hup, uok⟩, hb6⟩
        have BL6 := Lib.hid hb6; have DU := Lib.hid hdu; have HUP := Lib.hid hup; have UOK := Lib.hid uok
        have hs5 := BL5.out.size
        have hs6 := hb6.size
        have hsr := HB.out.size
        have low6 := LOW.out.keep ((HB.out.mono LOWS.out).trans ((BL5.out.mono (Nat.le_trans LOWS.out hsr)).trans (hb6.mono (Nat.le_trans (Nat.le_trans LOWS.out hsr) hs5))))
        have dn6 := hdd_keep DD.out hb6
        have LOW6 := Lib.hid low6; have DN6 := Lib.hid dn6
        clear hb6 hdu hup uok low6 dn6
        go_wp2_with fail
        obtain ⟨aL, cL, hL6⟩ := LOW6.out
        obtain ⟨aD, cD, hD6⟩ := DN6.out
        refine (cmp_any hL6 hD6 LED.out.norm.dig (trimD_norm (fun d hd => digs_dig _ d (List.mem_of_mem_take hd)) (fun d hd => take_fst (digs_fst (by omega)) d hd)) (by have := LED.out.len; omega) (by have := (trimD_val ((digs (10 * k + 5)).take j)).2; rw [List.length_take] at this; omega) (by have := LED.out.b1; omega) (by have := LED.out.b2; omega) (by rcases DD0.out with h | h <;> omega) (by rcases DD0.out with h | h <;> omega)).mono ?_
        rintro e w7 ⟨i1, rfl, ok1, hb7⟩
        have g1 := test_down MM.out SS.out.1 HLT.out h20 DD0.out DD2.out LED.out ok1
        have t2 : decide (i1 < 1) = false := decide_eq_false (by omega)
        have hig7 := HIGH.out.keep ((HB.out.mono HIGHS.out).trans ((BL5.out.mono (Nat.le_trans HIGHS.out hsr)).trans ((BL6.out.mono (Nat.le_trans (Nat.le_trans HIGHS.out hsr) hs5)).trans (hb7.mono (Nat.le_trans (Nat.le_trans (Nat.le_trans HIGHS.out hsr) hs5) hs6)))))
        have up7 := DU.out.keep hb7
        have BL7 := Lib.hid hb7; have HIG7 := Lib.hid hig7; have UP7 := Lib.hid up7
        clear hL6 hD6 ok1 g1 hb7 hig7 up7
        go_wp2_with fail
        obtain ⟨aH, cH, hH7⟩ := HIG7.out
        obtain ⟨aU, cU, hU7⟩ := UP7.out
        refine (cmp_any hU7 hH7 UOK.out.norm.dig EDH.out.norm (by have := UOK.out.len; omega) (by have := EDH.out.len; omega) (by rcases HUP.out with h | h <;> omega) (by rcases HUP.out with h | h <;> omega) (by have := EDH.out.b1; omega) (by have := EDH.out.b2; omega)).mono ?_
        rintro e w8 ⟨i2, rfl, ok2, hb8⟩
        have g2 := test_up MM.out SS.out.1 HLT.out UOK.out EDH.out ok2
        have t3 : decide (i2 < 1) = false := decide_eq_false (by omega)
        have hs7 := BL7.out.size
        have FIN := Lib.hid (HB.out.trans ((BL5.out.mono hsr).trans ((BL6.out.mono (Nat.le_trans hsr hs5)).trans ((BL7.out.mono (Nat.le_trans (Nat.le_trans hsr hs5) hs6)).trans (hb8.mono (Nat.le_trans (Nat.le_trans (Nat.le_trans hsr hs5) hs6) hs7))))))
        clear hH7 hU7 ok2 g2 hb8
        go_wp2_with fail
        go_roundw
        case rel => exact ⟨j + 1, by go_num, by have := HLT.out; omega, FIN.out⟩
        case measure => simp [intOf]; have := HLT.out; omega
      · have t1 : decide ((j : Int) < ((digs (10 * k + 5)).length : Int)) = false := decide_eq_false (by omega)
        have hle := Nat.le_of_not_lt hlt
        clear hb hA hlt
        go_wp2_with fail
        go_ret
        exact ⟨rfl, BW.out.trans (HB.out.mono HIW)⟩
end Go.Proofs.YtbdciilkapgfjaaGreatDoor
