/- A part of the proof. A part of the proof. -/
import Derived.Test.YtbdciilkapgfjaaGreatDoorZAppI
import Derived.Test.YtbdciilkapgfjaaGreatDoorZBld
import Derived.Test.YtbdciilkapgfjaaGreatDoorZKnB
import Derived.Deep.Upon
import Derived.Deep.DeepCutAuto
import Derived.Deep.CutBlock
namespace Go.Proofs.YtbdciilkapgfjaaGreatDoor
open Go.RowKit

/-- A call of a method of an interface value. -/
theorem wp_call_invoke {P : Program} {o : Oper} {a : Act} {w : World} {K : Act → World → Prop} {Q : Exit → Act → World → Prop} (f : FuncId) (r : Operand) (name : String) (xs : Array Operand) (ts : Array TypeId) (rv : Value) (vs ws : Array Value)
    (ho : o.op = .call { callee := .invoke r name, args := xs, argTypes := ts }) (hr : a.eval r = rv) (hv : xs.map a.eval = vs) (hinv : (invoke (.fn (.method name) #[]) (#[rv] ++ vs)).run P w = .ok (.enter f ws) w)
    (h : Calls P f ws w fun e w' => ∃ v, e = .returned v ∧ K (a.put o.dst v) w') : o.wp P a w K Q := by
  unfold Oper.wp execOp
  simp only [ho, resolve, hr, hv, Sem.run_bind, Sem.run_pure, Result.andThen_ok]
  rw [hinv]
  refine h.mono ?_
  rintro e w' ⟨v, rfl, hk⟩
  exact hk

theorem invoke_write (x y : Value) (w : World) : (invoke (.fn (.method "Write") #[]) (#[.iface 104 x] ++ #[y])).run Tryz.prog w = .ok (.enter 229 #[x, y]) w := by kernel_rfl

/-- What AppendInt leaves in an encoder. -/
def AppIs (N : Nat) (I : Value) (s : ByteArray) : Value → (Nat → Prop) → World → Prop := fun v S w => v = .slice (some ⟨N, 1, none⟩) s.size 64 ∧ S N ∧ w.cell? ⟨N, 0, none⟩ = some I ∧ ∀ j u, (Lib.strCells s)[j]? = some u → w.cell? ⟨N, 1 + j, none⟩ = some u
theorem appIs_st {N : Nat} {I : Value} {s : ByteArray} : ∀ v S w w', AppIs N I s v S w → Same S w w' → AppIs N I s v S w' := fun _ _ _ _ ⟨h1, h2, h3, h4⟩ hs =>
  ⟨h1, h2, (World.cell?_of_block (a := ⟨N, 0, none⟩) (hs N h2)).trans h3, fun j u hj => (World.cell?_of_block (a := ⟨N, 1 + j, none⟩) (hs N h2)).trans (h4 j u hj)⟩

/-- An encoder: what it writes to, and 64 bytes. -/
structure EncAt (w : World) (N : Nat) (I : Value) : Prop where
  c0 : w.cell? ⟨N, 0, none⟩ = some I
  f0 : w.frozen? ⟨N, 0, none⟩ = false
  room : Room64 w N 1
  lt : N < w.heap.size
theorem EncAt.same {w w' : World} {N : Nat} {I : Value} (h : EncAt w N I) (hs : w'.heap[N]? = w.heap[N]?) (hlt : N < w'.heap.size) : EncAt w' N I :=
  ⟨(World.cell?_of_block (a := ⟨N, 0, none⟩) hs).trans h.c0, (World.frozen?_of_block (a := ⟨N, 0, none⟩) hs).trans h.f0, ⟨fun j hj => by rw [World.cell?_of_block (a := ⟨N, 1 + j, none⟩) hs]; exact h.room.cell j hj, fun j hj => by rw [World.frozen?_of_block (a := ⟨N, 1 + j, none⟩) hs]; exact h.room.fr j hj⟩, hlt⟩

theorem tape_setCells (b : Nat) : ∀ (vs : List Value) (o : Nat) (w : World), (w.setCells b o vs).tape = w.tape
  | [], _, _ => rfl
  | v :: r, o, w => by rw [World.setCells, tape_setCells b r]; rfl
theorem put_app {w w' : World} {N : Nat} {I : Value} {s : ByteArray} (h : EncAt w N I) (hs : s.size ≤ 64) (hp : Put w N 1 s w') : AppIs N I s (.slice (some ⟨N, 1, none⟩) s.size 64) (· = N) w' ∧ w.grownBy w' (some N) := by
  obtain ⟨w1, hb, rfl⟩ := hp
  have hl := Lib.strCells_length s
  have hr := h.room.below hb h.lt
  refine ⟨⟨rfl, rfl, ?_, fun j u hj => ?_⟩, ?_⟩
  · rw [World.cell?_setCells_out]
    · exact (hb.cell (p := ⟨N, 0, none⟩) h.lt).trans h.c0
    · intro _ _; exact Or.inl (by show 0 < 1; omega)
  · have hj' : j < (Lib.strCells s).length := (List.getElem?_eq_some_iff.1 hj).1
    rw [World.cell?_setCells_in N (Lib.strCells s) 1 w1 (fun j hj => hr.cell j (by omega)) j hj', ← hj, List.getElem?_eq_getElem hj']
  · have hk : w1.grownBy (w1.setCells N 1 (Lib.strCells s)) (some N) := ⟨World.os_setCells _ _ _ _, tape_setCells _ _ _ _, World.output_setCells _ _ _ _, by simp, fun k hk hne => World.heap_setCells_other _ _ _ _ hk (fun e => hne (by rw [e]))⟩
    exact ⟨hk.os.trans hb.os, hk.tape.trans hb.tape, hk.output.trans hb.output, Nat.le_trans hb.size hk.size, fun k h1 h2 => (hk.block k (Nat.lt_of_lt_of_le h1 hb.size) h2).trans (hb.block k h1)⟩

theorem fieldEnc0 (N : Nat) (w : World) : (Instr.fieldAt 112 (.pointer (some ⟨N, 0, none⟩)) 0).run Tryz.prog w = .ok (.pointer (some ⟨N, 0, none⟩)) w := by go_simp
theorem fieldEnc1 (N : Nat) (w : World) : (Instr.fieldAt 112 (.pointer (some ⟨N, 0, none⟩)) 1).run Tryz.prog w = .ok (.pointer (some ⟨N, 1, none⟩)) w := by go_simp
theorem loadWriter (N off : Nat) (v : Value) (w : World) (h : w.cell? ⟨N, off, none⟩ = some v) : (Instr.loadAt 109 (.pointer (some ⟨N, off, none⟩))).run Tryz.prog w = .ok v w := by go_simp
theorem run_slice0 {o : Oper} {x : Operand} {N : Nat} (ho : o.op = .slice 110 x none (some (.const (.int .i64 0))) none) {b : Act} (e : b.eval x = .pointer (some ⟨N, 1, none⟩)) (w : World) : (execOp b.eval o).run Tryz.prog w = .ok (.value (.slice (some ⟨N, 1, none⟩) 0 64)) w := by
  unfold execOp; simp only [ho, e]; go_simp
theorem run_nilCheckI {o : Oper} {x : Operand} {t : TypeId} {v : Value} (ho : o.op = .nilCheck x) {b : Act} (e : b.eval x = .iface t v) (w : World) : (execOp b.eval o).run Tryz.prog w = .ok (.value (.iface t v)) w := by
  unfold execOp; simp only [ho, e]; rfl

set_option maxRecDepth 100000 in
set_option maxHeartbeats 2000000 in
/-- encode of an int, into a fresh builder. -/
theorem encode_int (i : Int) (h1 : -1000000000000000000 ≤ i) (h2 : i ≤ 1000000000000000000) {N b : Nat} {w : World} (hE : EncAt w N (.iface 104 (.pointer (some ⟨b, 0, none⟩)))) (hb : w.heap[b]? = some (.cells #[.pointer none, .slice none 0 0] 107 (0, 0))) (hNb : b < N) :
    Calls Tryz.prog 52 #[.pointer (some ⟨N, 0, none⟩), .iface 3 (.int .i64 i)] w fun e w' => e = .returned (.tuple #[]) ∧ Lib.BuilderAt 107 5 b b (.pointer (some ⟨b, 0, none⟩)) (Lib.strCells (itxt i)) w' ∧ Below b w w' := by
  have hsz : (itxt i).size ≤ 21 := by
    have := digs_len (n := i.natAbs) (k := 20) (by decide) (by omega)
    unfold itxt
    split
    · rw [ByteArray.size_append, dtxt_size]; show 1 + _ ≤ _; omega
    · rw [dtxt_size]; omega
  have HE := Lib.hid hE; have HB := Lib.hid hb
  have SZ := Lib.hid hsz
  have APP : Hid (∀ w', w'.heap[N]? = w.heap[N]? → N < w'.heap.size → Calls Tryz.prog 66 #[.slice (some ⟨N, 1, none⟩) 0 64, .int .i64 i, .int .i64 10] w' fun e w'' => ∃ v, e = .returned v ∧ AppIs N (.iface 104 (.pointer (some ⟨b, 0, none⟩))) (itxt i) v (· = N) w'' ∧ w'.grownBy w'' (some N)) := Lib.hid (by
    intro w' hs hlt
    have hE' := hE.same hs hlt
    refine (AppendInt_any i h1 h2 hE'.room hE'.lt).mono ?_
    rintro e w'' ⟨rfl, hp⟩
    obtain ⟨g1, g2⟩ := put_app hE' (by omega) hp
    exact ⟨_, rfl, g1, g2⟩)
  clear hE hb h1 h2 hsz
  go_enter Tryz.func52, Tryz.ntmps52
  go_upto_region 13 with fail
  refine planK 13 104 [(0, 39), (1, 40), (2, 41), (3, 42), (4, 43), (5, 44), (6, 45), (7, 46), (8, 47), (9, 48), (10, 49), (11, 50)] [(0, (.pointer (some ⟨N, 0, none⟩))), (6, .int .i64 i)] [.v (.pointer (some ⟨N, 0, none⟩)), .v (.pointer (some ⟨N, 0, none⟩)), .v (.pointer (some ⟨N, 0, none⟩)), .v (.iface 104 (.pointer (some ⟨b, 0, none⟩))), .v (.pointer (some ⟨N, 0, none⟩)), .v (.pointer (some ⟨N, 0, none⟩)), .v (.pointer (some ⟨N, 1, none⟩)), .v (.slice (some ⟨N, 1, none⟩) 0 64), .v (.int .i64 i), .genO N (AppIs N (.iface 104 (.pointer (some ⟨b, 0, none⟩))) (itxt i)) appIs_st, .v (.iface 104 (.pointer (some ⟨b, 0, none⟩))), .v (.iface 104 (.pointer (some ⟨b, 0, none⟩)))] (by kernel_rfl) (by kernel_rfl) rfl ?_ (by kernel_rfl) (by rfl) (by simp) ?_ (by kernel_rfl) ?_ ?_
  · intro p hp
    simp only [List.mem_cons, List.not_mem_nil, or_false] at hp
    rcases hp with rfl | rfl <;> rfl
  · intro k hk b' hb'
    simp only [List.mem_cons, List.not_mem_nil, or_false] at hk
    rcases hk with rfl | rfl | rfl | rfl | rfl | rfl | rfl | rfl | rfl | rfl | rfl | rfl
    all_goals first | (cases hb'; exact HE.out.lt) | (cases hb'; done)
  · intro i' o ho hT
    rcases i' with _ | _ | _ | _ | _ | _ | _ | _ | _ | _ | _ | _ | i'
    · obtain rfl := Option.some.inj ho
      exact kn_move 0 (by rfl) rfl rfl (by simp)
    · obtain rfl := Option.some.inj ho
      exact kn_run1 0 39 (by rfl) rfl (by simp) rfl (by kernel_rfl) (fun b w e => run_nilCheck rfl e w)
    · obtain rfl := Option.some.inj ho
      exact kn_field1 112 0 1 40 (by rfl) rfl rfl (by simp) rfl (by kernel_rfl) (fieldEnc0 _)
    · obtain rfl := Option.some.inj ho
      exact kn_loadO (k := 9) (a := ⟨N, 0, none⟩) 109 2 41 (by rfl) rfl rfl (by simp) rfl (by kernel_rfl) rfl (by rfl) rfl HE.out.lt HE.out.c0 (fun u S w h => h.2.2.1) (loadWriter _ _ _)
    · obtain rfl := Option.some.inj ho
      exact kn_move 0 (by rfl) rfl rfl (by simp)
    · obtain rfl := Option.some.inj ho
      exact kn_run1 4 43 (by rfl) rfl (by simp) rfl (by kernel_rfl) (fun b w e => run_nilCheck rfl e w)
    · obtain rfl := Option.some.inj ho
      exact kn_field1 112 1 5 44 (by rfl) rfl rfl (by simp) rfl (by kernel_rfl) (fieldEnc1 _)
    · obtain rfl := Option.some.inj ho
      exact kn_run1 6 45 (by rfl) rfl (by simp) rfl (by kernel_rfl) (fun b w e => run_slice0 rfl e w)
    · obtain rfl := Option.some.inj ho
      exact kn_move 6 (by rfl) rfl rfl (by simp)
    · obtain rfl := Option.some.inj ho
      exact kn_callO 66 #[.tmp 46, .tmp 47, .const (.int .i64 10)] _ #[(.slice (some ⟨N, 1, none⟩) 0 64), .int .i64 i, .int .i64 10] [(7, 46, (.slice (some ⟨N, 1, none⟩) 0 64)), (8, 47, .int .i64 i)] (enters_of Tryz.func66 (by kernel_rfl) rfl) (by rfl) rfl HE.out.lt rfl (uses2 (by simp) rfl (by kernel_rfl) (by simp) rfl (by kernel_rfl)) (fun b hu => by simp only [List.map_toArray, List.map_cons, List.map_nil, hu _ List.mem_cons_self, hu _ (List.mem_cons_of_mem _ List.mem_cons_self)]; rfl) APP.out
    · obtain rfl := Option.some.inj ho
      exact kn_run1 3 42 (by rfl) rfl (by simp) rfl (by kernel_rfl) (fun b w e => run_nilCheckI rfl e w)
    · obtain rfl := Option.some.inj ho
      exact kn_move1 3 42 (by rfl) rfl rfl (by simp) rfl (by kernel_rfl)
    · simp at hT
      omega
  · intro u S' w' hp hR fuel listed hsz' hl hf
    obtain rfl := listed_eq hsz' hl
    have e48 := hR.1 (9, 48) (by simp); have e50 := hR.1 (11, 50) (by simp)
    simp only at e48 e50
    have v11 := planE_v hp (by rfl) (j := 11) (x := .iface 104 (.pointer (some ⟨b, 0, none⟩))) rfl rfl
    rw [v11] at e50
    obtain ⟨hv9, _, _, hcells⟩ := (hp.val 9 (some N) none (AppIs N (.iface 104 (.pointer (some ⟨b, 0, none⟩))) (itxt i)) rfl rfl (live_of (by rfl))).1
    rw [hv9] at e48
    have hb' : w'.heap[b]? = some (.cells #[.pointer none, .slice none 0 0] 107 (0, 0)) := (hp.block b (Nat.lt_trans hNb HE.out.lt) (fun j e φ hj => by
      rcases knE_some hj with ⟨k, hk, hM, _, _⟩ | ⟨_, hM, _, _⟩
      · have hk' := List.mem_of_getElem? hk
        simp only [List.mem_cons, List.not_mem_nil, or_false] at hk'
        rcases hk' with rfl | rfl | rfl | rfl | rfl | rfl | rfl | rfl | rfl | rfl | rfl | rfl
        all_goals first | (cases hM; exact absurd hNb (Nat.lt_irrefl _)) | (cases hM; done)
      · cases hM)).trans HB.out
    have hlt := HE.out.lt
    have hs' := hp.size
    have WR := Lib.hid (write_any b b [] ⟨N, 1, none⟩ (itxt i).size 64 (Lib.strCells (itxt i)) w' (Or.inl ⟨Nat.le_refl _, _, hb', World.ownsRow_nil _ _ _ _, by simp [Value.ownBlock]⟩) (Lib.strCells_length _) (fun j u hj => by
      have : (⟨N, 1, none⟩ : Addr).add j = ⟨N, 1 + j, none⟩ := by unfold Addr.add; split <;> simp_all
      rw [this]; exact hcells j u hj) (Lib.strCells_oneCell _) (Nat.ne_of_gt hNb) (by have := SZ.out; simp; omega) (by omega))
    have LOW : Hid (Below b w w') := Lib.hid ⟨hp.os, hp.tape, hp.output, hp.size, fun k hk => hp.block k (by omega) (fun j e φ hj => by
      rcases knE_some hj with ⟨q, hq, hM, _, _⟩ | ⟨_, hM, _, _⟩
      · have hk' := List.mem_of_getElem? hq
        simp only [List.mem_cons, List.not_mem_nil, or_false] at hk'
        rcases hk' with rfl | rfl | rfl | rfl | rfl | rfl | rfl | rfl | rfl | rfl | rfl | rfl
        all_goals first | (cases hM; exact absurd hk (by omega)) | (cases hM; done)
      · cases hM)⟩
    have hu : 0 + 1 ≤ fuel := Nat.le_trans (Nat.le_of_ble_eq_true rfl) hf
    clear hf hl hsz' hcells hb' hp hR v11 hv9
    refine wpAny_head 0 12 _ rfl (by kernel_rfl) rfl ?_ fuel hu
    refine wp_call_invoke 229 (.tmp 50) "Write" #[.tmp 48] _ (.iface 104 (.pointer (some ⟨b, 0, none⟩))) #[.slice (some ⟨N, 1, none⟩) (itxt i).size 64] _ rfl e50 (by simp only [List.map_toArray, List.map_cons, List.map_nil, e48]) (invoke_write _ _ _) (WR.out.mono ?_)
    rintro e w'' ⟨rfl, hbld, hbel⟩
    have BLD := Lib.hid hbld; have BEL := Lib.hid (LOW.out.trans hbel)
    clear hbld hbel WR LOW
    refine ⟨_, rfl, fun fuel _ => wpAny_done (by kernel_rfl) ?_ fuel⟩
    simp only [frameOf, frameL, List.zipIdx_cons, List.zipIdx_nil, Act.put, List.setIfInBounds_toArray, List.set_cons_zero, List.set_cons_succ, Nat.zero_add, Nat.reduceAdd]
    simp only [Exit.inBlock]
    go_end0
    exact ⟨rfl, by simpa using BLD.out, BEL.out⟩
end Go.Proofs.YtbdciilkapgfjaaGreatDoor

namespace Go.Proofs.YtbdciilkapgfjaaGreatDoor
open Go.RowKit

/-- What encode leaves: the builder holds the text. -/
def EncPost (b : Nat) (s : ByteArray) (w : World) (e : Ending) (w' : World) : Prop := e = .returned (.tuple #[]) ∧ Lib.BuilderAt 107 5 b b (.pointer (some ⟨b, 0, none⟩)) (Lib.strCells s) w' ∧ Below b w w'
def Encodes (v : Value) (s : ByteArray) : Prop := ∀ (N b : Nat) (w : World), EncAt w N (.iface 104 (.pointer (some ⟨b, 0, none⟩))) → w.heap[b]? = some (.cells #[.pointer none, .slice none 0 0] 107 (0, 0)) → b < N → Calls Tryz.prog 52 #[.pointer (some ⟨N, 0, none⟩), v] w (EncPost b s w)

theorem encodes_int (i : Int) (h1 : -1000000000000000000 ≤ i) (h2 : i ≤ 1000000000000000000) : Encodes (.iface 3 (.int .i64 i)) (itxt i) := fun _ _ _ hE hb hN => encode_int i h1 h2 hE hb hN

theorem size_enc : Tryz.zeroCells112.size = 65 := by kernel_rfl
theorem enc_made (w : World) (I : Value) : EncAt ((w.alloc (.cells #[.pointer none, .slice none 0 0] 107)).alloc (.cells (Tryz.zeroCells112.setIfInBounds 0 I) 112)) (w.heap.size + 1) I := by
  have h := heap_alloc_at (w.alloc (.cells #[.pointer none, .slice none 0 0] 107)) (.cells (Tryz.zeroCells112.setIfInBounds 0 I) 112)
  rw [World.size_alloc] at h
  have hs := size_enc
  exact ⟨by rw [Lib.cell_of_heap h]; simp [hs], Lib.frozen_of_heap h 0,
    ⟨fun j hj => by rw [Lib.cell_of_heap h]; simp [hs]; omega, fun j hj => Lib.frozen_of_heap h _⟩, by simp⟩

set_option maxRecDepth 100000 in
theorem jsonMarshal_any {v : Value} {s : ByteArray} (hv : Encodes v s) (w : World) :
    Calls Tryz.prog 38 #[v] w fun e w' => e = .returned (.string s) ∧ Below w.heap.size w w' := by
  have HV := Lib.hid hv
  clear hv
  go_enter Tryz.func38, Tryz.ntmps38
  go_wp2_with fail
  refine (HV.out _ _ _ (enc_made w _) ?_ (Nat.lt_succ_self _)).mono ?_
  · exact ((Below.refl (w.heap.size + 1) _).alloc (by simp) _).block w.heap.size (by omega) |>.trans (heap_alloc_at _ _)
  rintro e w1 ⟨rfl, hbld, hlow⟩
  have BL := Lib.hid hlow
  have hw : w.heap.size ≤ w1.heap.size := by have := hlow.size; simp at this; omega
  have LOW : Hid (Below w.heap.size w w1) := Lib.hid ((((Below.refl w.heap.size w).alloc (Nat.le_refl _) _).alloc (by simp) _).trans hlow)
  have STR := Lib.hid (string_any w.heap.size w.heap.size s w1 (Or.inr hbld) hw)
  clear hbld hlow
  go_wp2_with fail
  refine STR.out.mono ?_
  rintro e w2 ⟨rfl, hb2⟩
  have LOW2 := Lib.hid (LOW.out.trans hb2)
  clear hb2
  go_wp2_with fail
  go_ret
  exact ⟨rfl, LOW2.out⟩

theorem funcToJSON_any {v : Value} {s : ByteArray} (hv : Encodes v s) (w : World) : Calls Tryz.prog 26 #[v] w fun e w' => e = .returned (.iface 9 (.string s)) ∧ Below w.heap.size w w' := by
  have H := Lib.hid (jsonMarshal_any hv w)
  clear hv
  go_enter Tryz.func26, Tryz.ntmps26
  go_wp2_with fail
  refine H.out.mono ?_
  rintro e w1 ⟨rfl, hb⟩
  have HB := Lib.hid hb
  clear hb
  go_wp2_with fail
  go_ret
  exact ⟨rfl, HB.out⟩
/-- A value that is no string. -/
def NoStr (v : Value) : Prop := ∀ w, (Instr.typeAssert v 20 9 true).run Tryz.prog w = .ok (.tuple #[.string ByteArray.empty, .bool false]) w
theorem funcToString_any {v : Value} {s : ByteArray} (hv : Encodes v s) (hn : NoStr v) (w : World) : Calls Tryz.prog 17 #[v] w fun e w' => e = .returned (.iface 9 (.string s)) ∧ Below w.heap.size w w' := by
  have H := Lib.hid (fun w' => funcToJSON_any hv w')
  unfold NoStr at hn
  clear hv
  go_enter Tryz.func17, Tryz.ntmps17
  go_wp2_with fail
  refine (H.out _).mono ?_
  rintro e w1 ⟨rfl, hb⟩
  have HB := Lib.hid hb
  clear hb
  go_wp2_with fail
  go_ret
  exact ⟨rfl, HB.out⟩
theorem ZzToString_any {v : Value} {s : ByteArray} (hv : Encodes v s) (hn : NoStr v) (w : World) : Calls Tryz.prog 11 #[v] w fun e w' => e = .returned (.iface 9 (.string s)) ∧ Below w.heap.size w w' := by
  have H := Lib.hid (funcToString_any hv hn w)
  clear hv hn
  go_enter Tryz.func11, Tryz.ntmps11
  go_wp2_with fail
  refine H.out.mono ?_
  rintro e w1 ⟨rfl, hb⟩
  have HB := Lib.hid hb
  clear hb
  go_wp2_with fail
  go_ret
  exact ⟨rfl, HB.out⟩
end Go.Proofs.YtbdciilkapgfjaaGreatDoor
