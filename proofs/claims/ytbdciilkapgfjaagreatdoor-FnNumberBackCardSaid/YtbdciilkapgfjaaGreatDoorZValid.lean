/- A part of the proof. -/
import Derived.Test.YtbdciilkapgfjaaGreatDoorM12
import Derived.Test.YtbdciilkapgfjaaGreatDoorZKnB
import Derived.Deep.DeepCutAuto
import Derived.Deep.CutBlock
namespace Go.Proofs.YtbdciilkapgfjaaGreatDoor
open Go.RowKit

/-- What scanNumber gives. -/
def ScanIs (N : Nat) (s : ByteArray) : Value → (Nat → Prop) → World → Prop := fun v S w => v = .int .i64 (s.size : Int) ∧ S N ∧ w.cell? ⟨N, 0, none⟩ = some (.string s)
theorem scanIs_st {N : Nat} {s : ByteArray} : ∀ v S w w', ScanIs N s v S w → Same S w w' → ScanIs N s v S w' := fun _ _ _ _ ⟨h1, h2, h3⟩ hs => ⟨h1, h2, (World.cell?_of_block (a := ⟨N, 0, none⟩) (hs N h2)).trans h3⟩
theorem fieldLex0 (N : Nat) (w : World) : (Instr.fieldAt 80 (.pointer (some ⟨N, 0, none⟩)) 0).run Tryz.prog w = .ok (.pointer (some ⟨N, 0, none⟩)) w := by go_simp
theorem loadLex (N off : Nat) (v : Value) (w : World) (h : w.cell? ⟨N, off, none⟩ = some v) : (Instr.loadAt 9 (.pointer (some ⟨N, off, none⟩))).run Tryz.prog w = .ok v w := by go_simp
theorem run_lenS {o : Oper} {x : Tmp} {s : ByteArray} (ho : o.op = .call { callee := .builtin .len, args := #[.tmp x], argTypes := #[9] }) {b : Act} (e : b.eval (.tmp x) = .string s) (w : World) : (execOp b.eval o).run Tryz.prog w = .ok (.value (.int .i64 (s.size : Int))) w := by
  unfold execOp
  simp only [ho, resolve, invoke, builtin, Sem.run_bind, Sem.run_pure, Result.andThen_ok, List.map_toArray, List.map_cons, List.map_nil, e]
  go_simp
theorem run_eqlSame {o : Oper} {x y : Tmp} {a : Int} (ho : o.op = .binOp .eql 3 (.tmp x) (.tmp y) 3) {b : Act} (e1 : b.eval (.tmp x) = .int .i64 a) (e2 : b.eval (.tmp y) = .int .i64 a) (w : World) : (execOp b.eval o).run Tryz.prog w = .ok (.value (.bool true)) w := by
  unfold execOp
  simp only [ho, e1, e2]
  go_simp
/-- Only one old block has been written. -/
theorem grown_plan {L : List KnE} {w0 w : World} {d : Nat → Bool} {u : Nat → Value} {S : Nat → Nat → Prop} {N : Nat} (hp : PlanE (knE L) w0 d u S w) (h : ∀ k ∈ L, ∀ b, k.old = some b → b = N) : w0.grownBy w (some N) :=
  ⟨hp.os, hp.tape, hp.output, hp.size, fun k hk hne => hp.block k hk fun j e φ hj => by
    rcases knE_some hj with ⟨q, hq, hM, _, _⟩ | ⟨_, hM, _, _⟩
    · exact absurd (by rw [h q (List.mem_of_getElem? hq) k hM.symm]) hne
    · cases hM⟩
theorem grown_two {w w1 w2 : World} {N : Nat} (h : w.grownBy w1 (some N)) (h2 : w1.grownBy w2 (some N)) : w.grownBy w2 (some N) :=
  ⟨h2.os.trans h.os, h2.tape.trans h.tape, h2.output.trans h.output, Nat.le_trans h.size h2.size, fun k hk hne => (h2.block k (Nat.lt_of_lt_of_le hk h.size) hne).trans (h.block k hk hne)⟩
theorem dig_not {c : Nat} (h : isDig c = true) : ((c : Int) == 43) = false ∧ ((c : Int) == 45) = false ∧ ((c : Int) == 46) = false := by
  simp [isDig] at h
  refine ⟨?_, ?_, ?_⟩ <;> simp <;> omega
theorem LexAt.block {w w' : World} {N o : Nat} {s : ByteArray} (h : LexAt w N s o) (hs : w'.heap[N]? = w.heap[N]?) (hlt : N < w'.heap.size) : LexAt w' N s o :=
  ⟨(World.cell?_of_block (a := ⟨N, 0, none⟩) hs).trans h.c0, (World.cell?_of_block (a := ⟨N, 1, none⟩) hs).trans h.c1, (World.frozen?_of_block (a := ⟨N, 1, none⟩) hs).trans h.f1, hlt⟩

set_option maxRecDepth 100000 in
set_option maxHeartbeats 2000000 in
theorem validNumber_any {N p q : Nat} {s : ByteArray} {w : World} (h : LexAt w N s 0) (hp : p = 0 ∨ (p = 1 ∧ byteAt s 0 = 45)) (hT : NumT s p q) :
    Calls Tryz.prog 23 #[.pointer (some ⟨N, 0, none⟩)] w fun e w' => e = .returned (.bool true) ∧ w.grownBy w' (some N) := by
  have PK := Lib.hid (peek_any h (Nat.zero_le _))
  have H := Lib.hid h; have HT := Lib.hid hT
  have hD := hT.d1 p (Nat.le_refl _) hT.pq
  obtain ⟨g43, g45, g46⟩ := dig_not hD
  have HD0 := Lib.hid hD
  have hps : p ≤ s.size := by have := hT.pq; have := hT.le; omega
  clear h hT hD
  rcases hp with rfl | ⟨rfl, h45⟩
  · obtain ⟨c, hc⟩ : ∃ c, c = byteAt s 0 := ⟨_, rfl⟩
    rw [← hc] at PK g43 g45 g46 HD0
    have HD := HD0
    clear hc hps
    go_enter Tryz.func23, Tryz.ntmps23
    go_wp2_with fail
    refine PK.out.mono ?_
    rintro e w1 ⟨rfl, hb1⟩
    have HL := Lib.hid (H.out.below hb1 H.out.lt)
    have HG := Lib.hid (grown_low (grown_refl w (some N)) hb1)
    clear hb1
    go_upto_region 12 with fail
    have SCAN : Hid (∀ w', w'.heap[N]? = w1.heap[N]? → N < w'.heap.size → Calls Tryz.prog 36 #[.pointer (some ⟨N, 0, none⟩), .int .i64 0] w' fun e w'' => ∃ v, e = .returned v ∧ ScanIs N s v (· = N) w'' ∧ w'.grownBy w'' (some N)) := Lib.hid (by
      intro w' hs hlt
      refine (scan_any (HL.out.block hs hlt) HT.out).mono ?_
      rintro e w'' ⟨rfl, hl, hg⟩
      exact ⟨_, rfl, ⟨rfl, rfl, hl.c0⟩, hg⟩)
    refine planKG 14 44 [(0, 31), (1, 32), (2, 33), (3, 34), (4, 35), (5, 36), (6, 37), (7, 38), (8, 39), (9, 40), (10, 41), (11, 42), (12, 43), (13, 2)] [(0, (.pointer (some ⟨N, 0, none⟩))), (3, (.int .u8 (c : Int))), (4, .int .i64 0)] [.v (.int .u8 (c : Int)), .v (.bool true), .v (.bool true), .v (.pointer (some ⟨N, 0, none⟩)), .v (.int .i64 0), .genO N (ScanIs N s) scanIs_st, .v (.pointer (some ⟨N, 0, none⟩)), .v (.pointer (some ⟨N, 0, none⟩)), .v (.pointer (some ⟨N, 0, none⟩)), .v (.string s), .v (.int .i64 (s.size : Int)), .v (.bool true), .v (.bool true), .v (.bool true)] [(2, true)] (by kernel_rfl) (by kernel_rfl) rfl ?_ (by kernel_rfl) ?_ (by rfl) (by simp) ?_ (by kernel_rfl) ?_ ?_
    · intro p hp
      simp only [List.mem_cons, List.not_mem_nil, or_false] at hp
      rcases hp with rfl | rfl | rfl <;> rfl
    · intro p hp
      simp only [List.mem_cons, List.not_mem_nil, or_false] at hp
      rcases hp with rfl
      exact ⟨rfl, 33, by simp⟩
    · intro k hk b' hb'
      simp only [List.mem_cons, List.not_mem_nil, or_false] at hk
      rcases hk with rfl | rfl | rfl | rfl | rfl | rfl | rfl | rfl | rfl | rfl | rfl | rfl | rfl | rfl
      all_goals first | (cases hb'; exact HL.out.lt) | (cases hb'; done)
    · intro i' o ho hT
      rcases i' with _ | _ | _ | _ | _ | _ | _ | _ | _ | _ | _ | _ | _ | _ | i'
      · obtain rfl := Option.some.inj ho
        exact kn_move 3 (by rfl) rfl rfl (by simp)
      · obtain rfl := Option.some.inj ho
        exact kn_callQ 35 #[.tmp 31] _ #[(.int .u8 (c : Int))] [(0, 31, (.int .u8 (c : Int)))] (enters_of Tryz.func35 (by kernel_rfl) rfl) (by rfl) rfl rfl (uses1 (by simp) rfl (by kernel_rfl)) (fun b hu => by simp only [List.map_toArray, List.map_cons, List.map_nil, hu _ List.mem_cons_self]) (fun w' => isNumber_is HD.out w')
      · obtain rfl := Option.some.inj ho
        exact kn_move1 1 32 (by rfl) rfl rfl (by simp) rfl (by kernel_rfl)
      · obtain rfl := Option.some.inj ho
        exact kn_move 0 (by rfl) rfl rfl (by simp)
      · obtain rfl := Option.some.inj ho
        exact kn_move 4 (by rfl) rfl rfl (by simp)
      · obtain rfl := Option.some.inj ho
        exact kn_callO 36 #[.tmp 34, .tmp 35] _ #[(.pointer (some ⟨N, 0, none⟩)), .int .i64 0] [(3, 34, (.pointer (some ⟨N, 0, none⟩))), (4, 35, .int .i64 0)] (enters_of Tryz.func36 (by kernel_rfl) rfl) (by rfl) rfl HL.out.lt rfl (uses2 (by simp) rfl (by kernel_rfl) (by simp) rfl (by kernel_rfl)) (fun b hu => by simp only [List.map_toArray, List.map_cons, List.map_nil, hu _ List.mem_cons_self, hu _ (List.mem_cons_of_mem _ List.mem_cons_self)]) SCAN.out
      · obtain rfl := Option.some.inj ho
        exact kn_move 0 (by rfl) rfl rfl (by simp)
      · obtain rfl := Option.some.inj ho
        exact kn_run1 6 37 (by rfl) rfl (by simp) rfl (by kernel_rfl) (fun b w e => run_nilCheck rfl e w)
      · obtain rfl := Option.some.inj ho
        exact kn_field1 80 0 7 38 (by rfl) rfl rfl (by simp) rfl (by kernel_rfl) (fieldLex0 _)
      · obtain rfl := Option.some.inj ho
        exact kn_loadO (k := 5) (a := ⟨N, 0, none⟩) 9 8 39 (by rfl) rfl rfl (by simp) rfl (by kernel_rfl) rfl (by rfl) rfl HL.out.lt HL.out.c0 (fun u S w h => h.2.2) (loadLex _ _ _)
      · obtain rfl := Option.some.inj ho
        exact kn_run1 9 40 (by rfl) rfl (by simp) rfl (by kernel_rfl) (fun b w e => run_lenS rfl e w)
      · obtain rfl := Option.some.inj ho
        exact kn_run2O (k := 5) (j := 10) 36 41 (by rfl) rfl rfl (by rfl) (fun u S w h => h.1) (by simp) (by kernel_rfl) (by simp) rfl (by kernel_rfl) (fun b w e1 e2 => run_eqlSame rfl e1 e2 w)
      · obtain rfl := Option.some.inj ho
        exact kn_and 2 11 33 42 (by rfl) rfl rfl (by simp) rfl (by kernel_rfl) (by simp) rfl (by kernel_rfl)
      · obtain rfl := Option.some.inj ho
        exact kn_assign1 12 43 (by rfl) rfl rfl (by simp) rfl (by kernel_rfl)
      · simp at hT
        omega
    · intro u S' w' hp hR fuel listed hsz' hl hf
      obtain rfl := listed_eq hsz' hl
      have e13 : u 13 = .bool true := planE_v hp (by rfl) (j := 13) (x := .bool true) rfl rfl
      have GG := Lib.hid (grown_plan hp (by
        intro k hk b' hb'
        simp only [List.mem_cons, List.not_mem_nil, or_false] at hk
        rcases hk with rfl | rfl | rfl | rfl | rfl | rfl | rfl | rfl | rfl | rfl | rfl | rfl | rfl | rfl
        all_goals first | (cases hb'; rfl) | (cases hb'; done)))
      clear hf hl hsz' hp hR
      refine wpAny_done (by kernel_rfl) ?_ fuel
      simp only [frameOf, frameL, List.zipIdx_cons, List.zipIdx_nil, Act.put, List.setIfInBounds_toArray, List.set_cons_zero, List.set_cons_succ, Nat.zero_add, Nat.reduceAdd]
      go_wp2_with fail
      go_ret
      exact ⟨by rw [e13]; rfl, grown_two HG.out GG.out⟩
  · rw [h45] at PK
    obtain ⟨c, hc⟩ : ∃ c, c = byteAt s 1 := ⟨_, rfl⟩
    rw [← hc] at g43 g45 g46 HD0
    have HD := HD0
    have HC := Lib.hid hc
    clear hc h45
    go_enter Tryz.func23, Tryz.ntmps23
    go_wp2_with fail
    refine PK.out.mono ?_
    rintro e w0 ⟨rfl, hb1⟩
    have L0 := H.out.below hb1 H.out.lt
    have c0 := L0.c0; have c1 := L0.c1; have f1 := L0.f1
    have HL0 := Lib.hid L0
    have HG0 := Lib.hid (grown_low (grown_refl w (some N)) hb1)
    clear hb1 L0 PK
    go_wp2_with fail
    have L1 : LexAt (w0.setCell ⟨N, 1, none⟩ (.int .i64 1)) N s 1 := HL0.out.next
    have HL1 := Lib.hid L1
    have PK1 := Lib.hid (peek_any L1 hps)
    rw [← HC.out] at PK1
    clear L1 c0 c1 f1
    refine PK1.out.mono ?_
    rintro e w1 ⟨rfl, hb1⟩
    have HL := Lib.hid (HL1.out.below hb1 HL1.out.lt)
    have HG := Lib.hid (grown_low (grown_set HG0.out) hb1)
    clear hb1
    go_upto_region 12 with fail
    have SCAN : Hid (∀ w', w'.heap[N]? = w1.heap[N]? → N < w'.heap.size → Calls Tryz.prog 36 #[.pointer (some ⟨N, 0, none⟩), .int .i64 0] w' fun e w'' => ∃ v, e = .returned v ∧ ScanIs N s v (· = N) w'' ∧ w'.grownBy w'' (some N)) := Lib.hid (by
      intro w' hs hlt
      refine (scan_any (HL.out.block hs hlt) HT.out).mono ?_
      rintro e w'' ⟨rfl, hl, hg⟩
      exact ⟨_, rfl, ⟨rfl, rfl, hl.c0⟩, hg⟩)
    refine planKG 14 44 [(0, 31), (1, 32), (2, 33), (3, 34), (4, 35), (5, 36), (6, 37), (7, 38), (8, 39), (9, 40), (10, 41), (11, 42), (12, 43), (13, 2)] [(0, (.pointer (some ⟨N, 0, none⟩))), (3, (.int .u8 (c : Int))), (4, .int .i64 0)] [.v (.int .u8 (c : Int)), .v (.bool true), .v (.bool true), .v (.pointer (some ⟨N, 0, none⟩)), .v (.int .i64 0), .genO N (ScanIs N s) scanIs_st, .v (.pointer (some ⟨N, 0, none⟩)), .v (.pointer (some ⟨N, 0, none⟩)), .v (.pointer (some ⟨N, 0, none⟩)), .v (.string s), .v (.int .i64 (s.size : Int)), .v (.bool true), .v (.bool true), .v (.bool true)] [(2, true)] (by kernel_rfl) (by kernel_rfl) rfl ?_ (by kernel_rfl) ?_ (by rfl) (by simp) ?_ (by kernel_rfl) ?_ ?_
    · intro p hp
      simp only [List.mem_cons, List.not_mem_nil, or_false] at hp
      rcases hp with rfl | rfl | rfl <;> rfl
    · intro p hp
      simp only [List.mem_cons, List.not_mem_nil, or_false] at hp
      rcases hp with rfl
      exact ⟨rfl, 33, by simp⟩
    · intro k hk b' hb'
      simp only [List.mem_cons, List.not_mem_nil, or_false] at hk
      rcases hk with rfl | rfl | rfl | rfl | rfl | rfl | rfl | rfl | rfl | rfl | rfl | rfl | rfl | rfl
      all_goals first | (cases hb'; exact HL.out.lt) | (cases hb'; done)
    · intro i' o ho hT
      rcases i' with _ | _ | _ | _ | _ | _ | _ | _ | _ | _ | _ | _ | _ | _ | i'
      · obtain rfl := Option.some.inj ho
        exact kn_move 3 (by rfl) rfl rfl (by simp)
      · obtain rfl := Option.some.inj ho
        exact kn_callQ 35 #[.tmp 31] _ #[(.int .u8 (c : Int))] [(0, 31, (.int .u8 (c : Int)))] (enters_of Tryz.func35 (by kernel_rfl) rfl) (by rfl) rfl rfl (uses1 (by simp) rfl (by kernel_rfl)) (fun b hu => by simp only [List.map_toArray, List.map_cons, List.map_nil, hu _ List.mem_cons_self]) (fun w' => isNumber_is HD.out w')
      · obtain rfl := Option.some.inj ho
        exact kn_move1 1 32 (by rfl) rfl rfl (by simp) rfl (by kernel_rfl)
      · obtain rfl := Option.some.inj ho
        exact kn_move 0 (by rfl) rfl rfl (by simp)
      · obtain rfl := Option.some.inj ho
        exact kn_move 4 (by rfl) rfl rfl (by simp)
      · obtain rfl := Option.some.inj ho
        exact kn_callO 36 #[.tmp 34, .tmp 35] _ #[(.pointer (some ⟨N, 0, none⟩)), .int .i64 0] [(3, 34, (.pointer (some ⟨N, 0, none⟩))), (4, 35, .int .i64 0)] (enters_of Tryz.func36 (by kernel_rfl) rfl) (by rfl) rfl HL.out.lt rfl (uses2 (by simp) rfl (by kernel_rfl) (by simp) rfl (by kernel_rfl)) (fun b hu => by simp only [List.map_toArray, List.map_cons, List.map_nil, hu _ List.mem_cons_self, hu _ (List.mem_cons_of_mem _ List.mem_cons_self)]) SCAN.out
      · obtain rfl := Option.some.inj ho
        exact kn_move 0 (by rfl) rfl rfl (by simp)
      · obtain rfl := Option.some.inj ho
        exact kn_run1 6 37 (by rfl) rfl (by simp) rfl (by kernel_rfl) (fun b w e => run_nilCheck rfl e w)
      · obtain rfl := Option.some.inj ho
        exact kn_field1 80 0 7 38 (by rfl) rfl rfl (by simp) rfl (by kernel_rfl) (fieldLex0 _)
      · obtain rfl := Option.some.inj ho
        exact kn_loadO (k := 5) (a := ⟨N, 0, none⟩) 9 8 39 (by rfl) rfl rfl (by simp) rfl (by kernel_rfl) rfl (by rfl) rfl HL.out.lt HL.out.c0 (fun u S w h => h.2.2) (loadLex _ _ _)
      · obtain rfl := Option.some.inj ho
        exact kn_run1 9 40 (by rfl) rfl (by simp) rfl (by kernel_rfl) (fun b w e => run_lenS rfl e w)
      · obtain rfl := Option.some.inj ho
        exact kn_run2O (k := 5) (j := 10) 36 41 (by rfl) rfl rfl (by rfl) (fun u S w h => h.1) (by simp) (by kernel_rfl) (by simp) rfl (by kernel_rfl) (fun b w e1 e2 => run_eqlSame rfl e1 e2 w)
      · obtain rfl := Option.some.inj ho
        exact kn_and 2 11 33 42 (by rfl) rfl rfl (by simp) rfl (by kernel_rfl) (by simp) rfl (by kernel_rfl)
      · obtain rfl := Option.some.inj ho
        exact kn_assign1 12 43 (by rfl) rfl rfl (by simp) rfl (by kernel_rfl)
      · simp at hT
        omega
    · intro u S' w' hp hR fuel listed hsz' hl hf
      obtain rfl := listed_eq hsz' hl
      have e13 : u 13 = .bool true := planE_v hp (by rfl) (j := 13) (x := .bool true) rfl rfl
      have GG := Lib.hid (grown_plan hp (by
        intro k hk b' hb'
        simp only [List.mem_cons, List.not_mem_nil, or_false] at hk
        rcases hk with rfl | rfl | rfl | rfl | rfl | rfl | rfl | rfl | rfl | rfl | rfl | rfl | rfl | rfl
        all_goals first | (cases hb'; rfl) | (cases hb'; done)))
      clear hf hl hsz' hp hR
      refine wpAny_done (by kernel_rfl) ?_ fuel
      simp only [frameOf, frameL, List.zipIdx_cons, List.zipIdx_nil, Act.put, List.setIfInBounds_toArray, List.set_cons_zero, List.set_cons_succ, Nat.zero_add, Nat.reduceAdd]
      go_wp2_with fail
      go_ret
      exact ⟨by rw [e13]; rfl, grown_two HG.out GG.out⟩
end Go.Proofs.YtbdciilkapgfjaaGreatDoor
