/- spec.Vague is false of every right JSON value. -/
import Derived.Test.YtinmcopamjjlbaaGreatDoorSHas
import Derived.Test.YtinmcopamjjlbaaGreatDoorToGoAll
namespace Go.Proofs.YtinmcopamjjlbaaGreatDoor
open Go.RowKit

def FalsePost (w : World) (e : Ending) (w' : World) : Prop := e = .returned (.bool false) ∧ Below w.heap.size w w'

/-- The elements that a slice of Values shows, each smaller than z. -/
def Elems (w : World) (S : Nat → Prop) (a : Option Addr) (n z : Nat) : Prop :=
  ∀ i, i < n → ∃ (k : J) (b o : Nat) (x : VC), a = some ⟨b, o, none⟩ ∧ S b ∧ At6 w b (o + i * 6) x ∧ VR w S k x ∧ JOK k ∧ SizeOf.sizeOf k < z

theorem elems_of {w : World} {S : Nat → Prop} {j : J} {c : VC} (hok : JOK j) (hV : VR w S j c) : Elems w S c.la c.ll (SizeOf.sizeOf j) ∧ Elems w S c.va c.vl (SizeOf.sizeOf j) := by
  have hh := hV.head
  rw [JOK] at hok
  rw [VR] at hV
  refine ⟨fun i hi => ?_, fun i hi => ?_⟩
  · rw [hh.ll] at hi
    obtain ⟨b, o, x, h1, h2, h3, h4⟩ := hV.2.1 i hi
    exact ⟨_, b, o, x, h1, h2, h3, h4, hok.2.2.2.2.1 i hi, sizeOf_list j hi⟩
  · rw [hh.vl] at hi
    obtain ⟨b, o, x, h1, h2, h3, h4⟩ := hV.2.2.2 i hi
    exact ⟨_, b, o, x, h1, h2, h3, h4, hok.2.2.2.2.2.2.2 i hi, sizeOf_ents j hi⟩

set_option maxHeartbeats 1000000 in
theorem Vague_any (n : Nat) : ∀ (j : J) (c : VC) (w : World) (S : Nat → Prop), SizeOf.sizeOf j ≤ n → JOK j → VR w S j c → (∀ b, S b → b < w.heap.size) → Calls Tryz.prog 15 #[c.val] w (FalsePost w) := by
  induction n with
  | zero => intro j c w S hn; cases j <;> simp at hn
  | succ n ih =>
    intro j c w S hn hok hV hS
    have hh := hV.head
    have E0 := Lib.hid (box_alloc w c)
    have hb0 : Below w.heap.size w (w.alloc (.cells c.arr 26)) := (Below.refl _ _).alloc (Nat.le_refl _) _
    have HB0 := Lib.hid hb0
    have HI : ∀ (k : J) (x : VC) (w' : World), SizeOf.sizeOf k < SizeOf.sizeOf j → JOK k → VR w' S k x → (∀ b, S b → b < w'.heap.size) → Calls Tryz.prog 15 #[x.val] w' (FalsePost w') := fun k x w' hk => ih k x w' S (by omega)
    obtain ⟨ea, ev⟩ := elems_of hok hV
    have HJ := Lib.hid HI; have HS := Lib.hid hS; have EA := Lib.hid ea; have EV := Lib.hid ev
    rw [JOK] at hok
    have l1 : c.ll ≤ 400 := by rw [hh.ll]; exact hok.2.2.1
    have l2 : c.vl ≤ 400 := by rw [hh.vl]; exact hok.2.2.2.1
    have hk7 : ¬ c.k = 7 := by rw [hh.k]; cases j <;> simp [J.kind]; split <;> simp
    clear HI ih hn hV hb0 hS hok hh ea ev
    obtain ⟨k0, h0, s0, la, L, lc, ka, kl, kc, va, E, vc⟩ := c
    simp only at l1 l2 hk7
    unfold VC.val
    unfold VC.arr at *
    simp only at EA EV
    go_enter Tryz.func15, Tryz.ntmps15
    go_wp2_with fail
    go_loopw [10] (fun i wr => ∃ m : Nat, i = .int .i64 m ∧ m ≤ L ∧ Below (w.heap.size + 1) (w.alloc (.cells #[.int .i64 k0, .int .i64 h0, .string s0, .slice la L lc, .slice ka kl kc, .slice va E vc] 26)) wr) (fun i _ => L - (intOf i).toNat)
    case atStart => exact ⟨0, rfl, Nat.zero_le _, Below.refl _ _⟩
    case round =>
      obtain ⟨m, rfl, hm, hbw⟩ := hrel
      have BW := Lib.hid hbw
      have hbw0 := HB0.out.trans (hbw.mono (by omega))
      by_cases hlt : m < L
      · obtain ⟨k, b1, o1, x, h1, h2, h3, h4, h5, h6⟩ := EA.out m hlt
        subst h1
        have c1 := h3.below hbw0 (HS.out _ h2)
        have g0 := c1.c0; have g1 := c1.c1; have g2 := c1.c2; have g3 := c1.c3; have g4 := c1.c4; have g5 := c1.c5
        have IH := HJ.out k x (wr.alloc (.cells x.arr 26)) h6 h5 (h4.go (fun b hb => by rw [Below.heap_alloc _ _ _ (by have := HS.out b hb; have := hbw0.size; omega)]; exact hbw0.block b (HS.out b hb)) (fun _ h => h)) (fun b hb => by have := HS.out b hb; have := hbw0.size; simp; omega)
        unfold VC.val VC.arr at IH
        have I := Lib.hid IH
        clear IH c1 h2 h3 h4 h5 h6 hbw hbw0
        go_wp2_with fail
        refine I.out.mono ?_
        rintro e w2 ⟨rfl, hb2⟩
        have B2 := Lib.hid ((BW.out.alloc (by have := BW.out.size; simpa using this) _).trans (hb2.mono (by have := BW.out.size; simp at this ⊢; omega)))
        clear hb2 g0 g1 g2 g3 g4 g5
        go_wp2_with fail
        go_roundw
        case rel => exact ⟨m + 1, by go_num, by omega, B2.out⟩
        case measure => simp [intOf]; omega
      · have e5 := (E0.out.below hbw (by omega)).c5
        clear hbw hbw0
        go_wp2_with fail
        go_loopw [20] (fun i wr => ∃ m : Nat, i = .int .i64 m ∧ m ≤ E ∧ Below (w.heap.size + 1) (w.alloc (.cells #[.int .i64 k0, .int .i64 h0, .string s0, .slice la L lc, .slice ka kl kc, .slice va E vc] 26)) wr) (fun i _ => E - (intOf i).toNat)
        case atStart => exact ⟨0, rfl, Nat.zero_le _, BW.out⟩
        case round =>
          obtain ⟨m, rfl, hm, hbw⟩ := hrel
          have BW := Lib.hid hbw
          have hbw0 := HB0.out.trans (hbw.mono (by omega))
          clear e5
          by_cases hlt : m < E
          · obtain ⟨k, b1, o1, x, h1, h2, h3, h4, h5, h6⟩ := EV.out m hlt
            subst h1
            have c1 := h3.below hbw0 (HS.out _ h2)
            have g0 := c1.c0; have g1 := c1.c1; have g2 := c1.c2; have g3 := c1.c3; have g4 := c1.c4; have g5 := c1.c5
            have IH := HJ.out k x (wr.alloc (.cells x.arr 26)) h6 h5 (h4.go (fun b hb => by rw [Below.heap_alloc _ _ _ (by have := HS.out b hb; have := hbw0.size; omega)]; exact hbw0.block b (HS.out b hb)) (fun _ h => h)) (fun b hb => by have := HS.out b hb; have := hbw0.size; simp; omega)
            unfold VC.val VC.arr at IH
            have I := Lib.hid IH
            clear IH c1 h2 h3 h4 h5 h6 hbw hbw0
            go_wp2_with fail
            refine I.out.mono ?_
            rintro e w2 ⟨rfl, hb2⟩
            have B2 := Lib.hid ((BW.out.alloc (by have := BW.out.size; simpa using this) _).trans (hb2.mono (by have := BW.out.size; simp at this ⊢; omega)))
            clear hb2 g0 g1 g2 g3 g4 g5
            go_wp2_with fail
            go_roundw
            case rel => exact ⟨m + 1, by go_num, by omega, B2.out⟩
            case measure => simp [intOf]; omega
          · have e0 := (E0.out.below hbw (by omega)).c0
            have W2 := Lib.hid hbw0
            clear hbw hbw0
            go_wp2_with fail
            go_ret
            exact ⟨by simp [hk7], W2.out⟩
end Go.Proofs.YtinmcopamjjlbaaGreatDoor
