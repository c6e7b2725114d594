/- spec.Cmp of two readings of one right JSON value is zero. -/
import Derived.Test.YtjannccgfmclhaaGreatDoorCmp
import Derived.Test.YtjannccgfmclhaaGreatDoorToGoAll
namespace Go.Proofs.YtjannccgfmclhaaGreatDoor
open Go.RowKit

set_option maxHeartbeats 1000000 in
theorem Cmp_refl (n : Nat) : ∀ (j : J) (a c : VC) (w : World) (S : Nat → Prop), SizeOf.sizeOf j ≤ n → JOK j → VR w S j a → VR w S j c → (∀ b, S b → b < w.heap.size) → Calls Tryz.prog 47 #[a.val, c.val] w (ZeroPost w) := by
  induction n with
  | zero => intro j a c w S hn; cases j <;> simp at hn
  | succ n ih =>
    intro j a c w S hn hok hA hC hS
    have ha := hA.head; have hc := hC.head
    have hB : ∀ o p : Obj, Below w.heap.size w ((w.alloc o).alloc p) := fun o p => ((Below.refl _ _).alloc (Nat.le_refl _) _).alloc (by simp) _
    have hS2 : ∀ o p : Obj, ∀ b, S b → b < ((w.alloc o).alloc p).heap.size := fun o p b h => by have := hS b h; simp; omega
    have sm : ∀ o p : Obj, Same S w ((w.alloc o).alloc p) := fun o p b h => (hB o p).block b (hS b h)
    have ihl : ∀ i (_ : i < j.list.length) (x y : VC) (w' : World), VR w' S j.list[i] x → VR w' S j.list[i] y → (∀ b, S b → b < w'.heap.size) → Calls Tryz.prog 47 #[x.val, y.val] w' (ZeroPost w') :=
      fun i hi x y w' hx hy hs => ih j.list[i] x y w' S (by have := sizeOf_list j hi; omega) (hok.list hi) hx hy hs
    have ihe : ∀ i (_ : i < j.ents.length) (x y : VC) (w' : World), VR w' S j.ents[i].2 x → VR w' S j.ents[i].2 y → (∀ b, S b → b < w'.heap.size) → Calls Tryz.prog 47 #[x.val, y.val] w' (ZeroPost w') :=
      fun i hi x y w' hx hy hs => ih j.ents[i].2 x y w' S (by have := sizeOf_ents j hi; omega) (hok.ents hi) hx hy hs
    rw [VR] at hA hC
    rw [JOK] at hok
    have hll := hok.2.2.1; have hel := hok.2.2.2.1
    obtain ⟨k, h, s, la, ll, lc, ka, kl, kc, va, vl, vc⟩ := a
    obtain ⟨k', h', s', la', ll', lc', ka', kl', kc', va', vl', vc'⟩ := c
    have e1 := ha.k; have e2 := hc.k; have e3 := ha.h; have e4 := hc.h; have e5 := ha.s; have e6 := hc.s; have e7 := ha.ll; have e8 := hc.ll; have e9 := ha.kl; have e10 := hc.kl; have e11 := ha.vl; have e12 := hc.vl
    simp only at e1 e2 e3 e4 e5 e6 e7 e8 e9 e10 e11 e12 hA hC
    subst e1 e2 e3 e4 e5 e6 e7 e8 e9 e10 e11 e12
    have LL := fun w' (sm' : Same S w w') (hs : ∀ b, S b → b < w'.heap.size) => lists_refl (w := w') (S := S) j.list (a := la) (b := la') (ca := lc) (cb := lc') hll hs
      (fun i hi => by obtain ⟨b, o, x, h1, h2, h3, h4⟩ := hA.2.1 i hi; exact ⟨b, o, x, h1, h2, h3.same (sm' b h2), h4.go sm' (fun _ h => h)⟩)
      (fun i hi => by obtain ⟨b, o, x, h1, h2, h3, h4⟩ := hC.2.1 i hi; exact ⟨b, o, x, h1, h2, h3.same (sm' b h2), h4.go sm' (fun _ h => h)⟩) ihl
    have KK := fun w' (sm' : Same S w w') (hs : ∀ b, S b → b < w'.heap.size) => keys_refl (w := w') (S := S) (j.ents.map (·.1)) (a := ka) (b := ka') (ca := kc) (cb := kc') (by simpa using hel) hs
      (fun i hi => by
        obtain ⟨b, o, h1, h2, h3⟩ := hA.2.2.1 i (by simpa using hi)
        exact ⟨b, o, h1, h2, by simpa using (sm'.cell h2).trans h3⟩)
      (fun i hi => by
        obtain ⟨b, o, h1, h2, h3⟩ := hC.2.2.1 i (by simpa using hi)
        exact ⟨b, o, h1, h2, by simpa using (sm'.cell h2).trans h3⟩)
    have VV := fun w' (sm' : Same S w w') (hs : ∀ b, S b → b < w'.heap.size) => lists_refl (w := w') (S := S) (j.ents.map (·.2)) (a := va) (b := va') (ca := vc) (cb := vc') (by simpa using hel) hs
      (fun i hi => by
        obtain ⟨b, o, x, h1, h2, h3, h4⟩ := hA.2.2.2 i (by simpa using hi)
        exact ⟨b, o, x, h1, h2, h3.same (sm' b h2), by simpa using h4.go sm' (fun _ h => h)⟩)
      (fun i hi => by
        obtain ⟨b, o, x, h1, h2, h3, h4⟩ := hC.2.2.2 i (by simpa using hi)
        exact ⟨b, o, x, h1, h2, h3.same (sm' b h2), by simpa using h4.go sm' (fun _ h => h)⟩)
      (fun i hi x y w' hx hy hs => ihe i (by simpa using hi) x y w' (by simpa using hx) (by simpa using hy) hs)
    simp only [List.length_map] at KK VV
    have L0 := Lib.hid LL; have K0 := Lib.hid KK; have V0 := Lib.hid VV; have S0 := Lib.hid hS; have SM := Lib.hid sm; have S2 := Lib.hid hS2; have B0 := Lib.hid hB
    have hless := less_irrefl j.text
    clear LL KK VV hS sm hS2 hB ih ihl ihe hA hC ha hc hok hn hll hel
    cases j with
    | null =>
      unfold VC.val VC.arr
      simp only [J.kind]
      go_enter Tryz.func47, Tryz.ntmps47
      go_wp2_with fail
      go_ret
      exact ⟨rfl, B0.out _ _⟩
    | bool b =>
      cases b
      all_goals
        unfold VC.val VC.arr
        simp only [J.kind, if_true, if_false, Bool.false_eq_true]
        go_enter Tryz.func47, Tryz.ntmps47
        go_wp2_with fail
        go_ret
        exact ⟨rfl, B0.out _ _⟩
    | num x =>
      unfold VC.val VC.arr
      simp only [J.kind, J.half]
      go_enter Tryz.func47, Tryz.ntmps47
      go_wp2_with (go_at_call 63; refine (sign_zero _).mono ?_; rintro e w' ⟨rfl, rfl⟩)
      go_ret
      exact ⟨rfl, B0.out _ _⟩
    | str x =>
      unfold VC.val VC.arr
      simp only [J.kind, J.text]
      go_enter Tryz.func47, Tryz.ntmps47
      go_wp2_with (go_at_call 64; refine (texts_refl _ _).mono ?_; rintro e w' ⟨rfl, rfl⟩)
      go_ret
      exact ⟨rfl, B0.out _ _⟩
    | arr l =>
      simp only [J.list] at L0
      unfold VC.val VC.arr
      simp only [J.kind, J.list]
      go_enter Tryz.func47, Tryz.ntmps47
      go_wp2_with fail
      refine (L0.out _ (SM.out _ _) (S2.out _ _)).mono ?_
      rintro e w1 ⟨rfl, hb1⟩
      have B1 := Lib.hid ((B0.out _ _).trans (hb1.mono (by simp; omega)))
      clear hb1
      go_wp2_with (go_at_call 63; refine (sign_zero _).mono ?_; rintro e w' ⟨rfl, rfl⟩)
      go_ret
      exact ⟨rfl, B1.out⟩
    | obj m =>
      simp only [J.ents] at K0 V0
      unfold VC.val VC.arr
      simp only [J.kind, J.ents]
      go_enter Tryz.func47, Tryz.ntmps47
      go_wp2_with fail
      refine (K0.out _ (SM.out _ _) (S2.out _ _)).mono ?_
      rintro e w1 ⟨rfl, hb1⟩
      have hb1' := (B0.out _ _).trans (hb1.mono (by simp; omega))
      have VV := V0.out w1 (fun b h => hb1'.block b (S0.out b h)) (fun b h => by have := S0.out b h; have := hb1'.size; omega)
      have f0 := fun o hlt => hb1.cell (p := ⟨w.heap.size, o, none⟩) hlt
      have f1 := fun o hlt => hb1.cell (p := ⟨w.heap.size + 1, o, none⟩) hlt
      have B1 := Lib.hid hb1'; have V1 := Lib.hid VV
      have q0 := (f0 5 (by simp; omega))
      have q1 := (f1 5 (by simp))
      have q2 : w1.cell? ⟨w.heap.size, 5, none⟩ = some (.slice va m.length vc) := q0.trans (by simp [World.cell?_alloc_past, World.cell?_alloc_at])
      have q3 : w1.cell? ⟨w.heap.size + 1, 5, none⟩ = some (.slice va' m.length vc') := q1.trans (by simp [World.cell?_alloc_at])
      clear hb1 hb1' VV f0 f1 q0 q1
      go_wp2_with fail
      refine V1.out.mono ?_
      rintro e w2 ⟨rfl, hb2⟩
      have B2 := Lib.hid (B1.out.trans (hb2.mono B1.out.size))
      clear hb2
      go_wp2_with (go_at_call 63; refine (sign_zero _).mono ?_; rintro e w' ⟨rfl, rfl⟩)
      go_ret
      exact ⟨rfl, B2.out⟩
end Go.Proofs.YtjannccgfmclhaaGreatDoor
