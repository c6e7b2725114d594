/- spec.has at all right JSON values. spec.Vague is false of every right JSON value. -/
import Derived.Test.YtfgmegfgifeaiaaGreatDoorZPlace
import Derived.Test.YtfgmegfgifeaiaaGreatDoorM12
import Derived.Test.YtfgmegfgifeaiaaGreatDoorZRow
import Derived.BigGuardPart
import Derived.Test.YtfgmegfgifeaiaaGreatDoorM11
namespace Go.Proofs.YtfgmegfgifeaiaaGreatDoor
open Go.RowKit

/-- What a function of the specification gives. -/
def SpecOut (w : World) (o : Out) (e : Ending) (w' : World) : Prop :=
  ∃ c, e = .returned (.tuple #[VC.val c, .int .i64 o.how]) ∧ (∀ j, o = .value j → VR w' (New w.heap.size w') j c) ∧ Below w.heap.size w w'

/-- Two boxes for the arguments, one for the result. -/
theorem three_boxes (w : World) (a c : VC) : Below w.heap.size w (((w.alloc (.cells a.arr 26)).alloc (.cells c.arr 26)).alloc (.cells VC.nil.arr 26)) ∧
    Box (((w.alloc (.cells a.arr 26)).alloc (.cells c.arr 26)).alloc (.cells VC.nil.arr 26)) w.heap.size a ∧
    Box (((w.alloc (.cells a.arr 26)).alloc (.cells c.arr 26)).alloc (.cells VC.nil.arr 26)) (w.heap.size + 1) c ∧
    Box (((w.alloc (.cells a.arr 26)).alloc (.cells c.arr 26)).alloc (.cells VC.nil.arr 26)) (w.heap.size + 1 + 1) VC.nil := by
  refine ⟨(((Below.refl _ _).alloc (Nat.le_refl _) _).alloc (by simp) _).alloc (by simp; omega) _, ?_, ?_, ?_⟩
  · exact (box_alloc w a).below (((Below.refl (w.heap.size + 1) _).alloc (by simp) _).alloc (by simp) _) (by omega)
  · have := box_alloc (w.alloc (.cells a.arr 26)) c
    simp only [World.size_alloc] at this
    exact this.below ((Below.refl (w.heap.size + 2) _).alloc (by simp) _) (by omega)
  · have := box_alloc ((w.alloc (.cells a.arr 26)).alloc (.cells c.arr 26)) VC.nil
    simp only [World.size_alloc] at this
    exact this

theorem shas_obj_str {S : Nat → Prop} (m : List (ByteArray × J)) (a c : VC) (s : ByteArray) {w : World} (hV : VR w S (.obj m) a) (hj : JOK (.obj m)) (hS : ∀ b, S b → b < w.heap.size)
    (hk : c.k = 4) (hs : c.s = s) : Calls Tryz.prog 45 #[a.val, c.val] w (SpecOut w (.value (.bool (among s (m.map fun x : ByteArray × J => x.1))))) := by
  obtain ⟨hb0, bx0, bx1, bx2⟩ := three_boxes w a c
  have H := Lib.hid (SHas_any (S := S) m a s (w := (((w.alloc (.cells a.arr 26)).alloc (.cells c.arr 26)).alloc (.cells VC.nil.arr 26))) (hV.go (fun b h => hb0.block b (hS b h)) (fun _ h => h)) hj (fun b h => Nat.lt_of_lt_of_le (hS b h) hb0.size))
  have ha := hV.head.k
  have HB0 := Lib.hid hb0; have BX := Lib.hid bx2
  clear hb0 bx0 bx1 bx2 hV hj hS
  obtain ⟨k0, h0, s0, la, ll, lc, ka, kl, kc, va, vl, vc⟩ := a
  obtain ⟨k0', h0', s0', la', ll', lc', ka', kl', kc', va', vl', vc'⟩ := c
  simp only [J.kind] at ha hk hs
  subst ha hk hs
  unfold VC.val VC.arr VC.nil at *
  go_enter Tryz.func45, Tryz.ntmps45
  go_wp2_with fail
  refine H.out.mono ?_
  rintro e w1 ⟨rfl, hb1⟩
  have HB1 := Lib.hid hb1
  clear hb1
  go_wp2_with fail
  refine (SBool_any _ w1).mono ?_
  rintro e w2 ⟨k9, hg, rfl, hb2⟩
  have HG := Lib.hid hg
  unfold VC.val VC.arr VC.nil
  have bx := BX.out.below (HB1.out.trans (hb2.mono HB1.out.size)) (by simp)
  have q0 := bx.c0; have q1 := bx.c1; have q2 := bx.c2; have q3 := bx.c3; have q4 := bx.c4; have q5 := bx.c5; have qf := bx.fr; have lt := bx.lt
  have HB2 := Lib.hid hb2
  clear bx hb2 hg
  go_wp2_with fail
  refine bodyPost_ret (v := .tuple #[.agg #[.int .i64 k9, .int .i64 0, .string ByteArray.empty, .slice none 0 0, .slice none 0 0, .slice none 0 0], .int .i64 0]) (by simp [results, Tryz.results45, go_sem, q0, q1, q2, q3, q4, q5]) rfl ?_
  have hfin : Below w.heap.size w (valStored w2 (w.heap.size + 1 + 1) {VC.nil with k := k9}) := valStored_below ((HB0.out.trans (HB1.out.mono HB0.out.size)).trans (HB2.out.mono (Nat.le_trans HB0.out.size HB1.out.size))) (by omega)
  exact ⟨{VC.nil with k := k9}, rfl, (fun j hj => by cases hj; rw [HG.out]; exact VR.bool _ _ _), hfin⟩

theorem silent_nil {w w' : World} (hb : Below w.heap.size w w') {o : Out} (ho : ∀ j, o ≠ .value j) {n : Int} (hn : n = o.how) : SpecOut w o (.returned (.tuple #[VC.nil.val, .int .i64 n])) w' :=
  ⟨VC.nil, by rw [hn], fun j hj => absurd hj (ho j), hb⟩

theorem shas_arr_num (l : List J) (a c : VC) (h : Int) {w : World} (ha : a.k = 5) (hl : a.ll = l.length) (hk : c.k = 3) (hh : c.h = h) (h1 : -18014398509481984 ≤ h) (h2 : h ≤ 18014398509481984) (o : Out) (ho : o = if h % 2 = 0 then .value (.bool (decide (0 ≤ h / 2 ∧ h / 2 < l.length))) else .silent) :
    Calls Tryz.prog 45 #[a.val, c.val] w (SpecOut w o) := by
  obtain ⟨hb0, bx0, bx1, bx2⟩ := three_boxes w a c
  have H := Lib.hid (Whole_num h c (((w.alloc (.cells a.arr 26)).alloc (.cells c.arr 26)).alloc (.cells VC.nil.arr 26)) hk hh h1 h2)
  have HB0 := Lib.hid hb0; have BX := Lib.hid bx2; have BX0 := Lib.hid bx0
  have HO := Lib.hid ho
  clear hb0 bx0 bx1 bx2 h1 h2 ho
  obtain ⟨k0, h0, s0, la, ll, lc, ka, kl, kc, va, vl, vc⟩ := a
  obtain ⟨k0', h0', s0', la', ll', lc', ka', kl', kc', va', vl', vc'⟩ := c
  simp only at ha hk hh hl
  subst ha hk hh hl
  unfold VC.val VC.arr VC.nil at *
  go_enter Tryz.func45, Tryz.ntmps45
  go_wp2_with fail
  refine H.out.mono ?_
  rintro e w1 ⟨rfl, hb1⟩
  have bx := BX.out.below hb1 (by simp)
  have by0 := (BX0.out.below hb1 (by simp; omega)).c3
  have q0 := bx.c0; have q1 := bx.c1; have q2 := bx.c2; have q3 := bx.c3; have q4 := bx.c4; have q5 := bx.c5; have qf := bx.fr; have lt := bx.lt
  have HB1 := Lib.hid hb1
  clear bx hb1
  by_cases he : h0' % 2 = 0
  · have ho := HO.out
    rw [if_pos he] at ho
    obtain ⟨n, hn⟩ : ∃ n, n = h0' / 2 := ⟨_, rfl⟩
    simp only [if_pos he, decide_eq_true he]
    rw [← hn] at ho ⊢
    have HO2 := Lib.hid ho
    clear he H hn ho HO
    by_cases h0n : 0 ≤ n
    all_goals
      go_wp2_with fail
      refine (SBool_any _ w1).mono ?_
      rintro e w2 ⟨k9, hg, rfl, hb2⟩
      have HG := Lib.hid hg
      unfold VC.val VC.arr VC.nil
      have bx := BX.out.below (HB1.out.trans (hb2.mono HB1.out.size)) (by simp)
      have q0 := bx.c0; have q1 := bx.c1; have q2 := bx.c2; have q3 := bx.c3; have q4 := bx.c4; have q5 := bx.c5; have qf := bx.fr; have lt := bx.lt
      have HB2 := Lib.hid hb2
      clear bx hb2 hg
      go_wp2_with fail
      refine bodyPost_ret (v := .tuple #[.agg #[.int .i64 k9, .int .i64 0, .string ByteArray.empty, .slice none 0 0, .slice none 0 0, .slice none 0 0], .int .i64 0]) (by simp [results, Tryz.results45, go_sem, q0, q1, q2, q3, q4, q5]) rfl ?_
      have hfin : Below w.heap.size w (valStored w2 (w.heap.size + 1 + 1) {VC.nil with k := k9}) := valStored_below ((HB0.out.trans (HB1.out.mono HB0.out.size)).trans (HB2.out.mono (Nat.le_trans HB0.out.size HB1.out.size))) (by omega)
      have hv := VR.bool (valStored w2 (w.heap.size + 1 + 1) {VC.nil with k := k9}) (New w.heap.size (valStored w2 (w.heap.size + 1 + 1) {VC.nil with k := k9})) (decide (0 ≤ n ∧ n < l.length))
      have hk9 : k9 = if decide (0 ≤ n ∧ n < (l.length : Int)) = true then 2 else 1 := by rw [HG.out]; first | (simp [h0n]; done) | (simp; omega)
      rw [← hk9] at hv
      rw [HO2.out]
      exact ⟨{VC.nil with k := k9}, rfl, (fun j hj => by cases hj; exact hv), hfin⟩
  · have ho := HO.out
    rw [if_neg he] at ho
    simp only [if_neg he, decide_eq_false he]
    have HO2 := Lib.hid ho
    clear he H ho HO
    go_wp2_with fail
    refine bodyPost_ret (v := .tuple #[.agg #[.int .i64 0, .int .i64 0, .string ByteArray.empty, .slice none 0 0, .slice none 0 0, .slice none 0 0], .int .i64 2]) (by simp [results, Tryz.results45, go_sem, q0, q1, q2, q3, q4, q5]; rfl) rfl ?_
    have hfin : Below w.heap.size w (valStored w1 (w.heap.size + 1 + 1) VC.nil) := valStored_below ((HB0.out.trans (HB1.out.mono HB0.out.size))) (by omega)
    rw [HO2.out]
    exact silent_nil hfin (fun j hj => by cases hj) rfl

theorem shas_other (a c : VC) {w : World} (o : Out) (ho : ∀ j, o ≠ .value j)
    (h : (a.k = 0 ∧ o.how = 2) ∨ ((a.k = 1 ∨ a.k = 2 ∨ a.k = 3 ∨ a.k = 4 ∨ (a.k = 5 ∧ ¬ c.k = 3) ∨ (a.k = 6 ∧ ¬ c.k = 4)) ∧ o.how = 1)) :
    Calls Tryz.prog 45 #[a.val, c.val] w (SpecOut w o) := by
  obtain ⟨hb0, bx0, bx1, bx2⟩ := three_boxes w a c
  have HB0 := Lib.hid hb0; have HO := Lib.hid ho
  clear hb0 bx0 bx1 bx2 ho
  obtain ⟨k0, h0, s0, la, ll, lc, ka, kl, kc, va, vl, vc⟩ := a
  obtain ⟨k0', h0', s0', la', ll', lc', ka', kl', kc', va', vl', vc'⟩ := c
  simp only at h
  unfold VC.val VC.arr VC.nil at *
  rcases h with ⟨rfl, hw⟩ | ⟨rfl | rfl | rfl | rfl | ⟨rfl, hk⟩ | ⟨rfl, hk⟩, hw⟩
  all_goals
    have HW := Lib.hid hw
    clear hw
    go_enter Tryz.func45, Tryz.ntmps45
    go_wp2_with fail
    all_goals
      refine bodyPost_ret (v := .tuple #[.agg #[.int .i64 0, .int .i64 0, .string ByteArray.empty, .slice none 0 0, .slice none 0 0, .slice none 0 0], .int .i64 _]) (by simp [results, Tryz.results45, go_sem]; exact ⟨rfl, rfl⟩) rfl ?_
      exact silent_nil ((((Below.refl _ _).alloc (Nat.le_refl _) _).alloc (by simp) _).alloc (by simp; omega) _) HO.out HW.out.symm

/-- Spec's has answers as it is written. -/
theorem shas_any {S : Nat → Prop} (j k : J) (a c : VC) {w : World} (hj : JOK j) (hk : JOK k) (ha : VR w S j a) (hc : VR w S k c) (hS : ∀ b, S b → b < w.heap.size) :
    Calls Tryz.prog 45 #[a.val, c.val] w (SpecOut w (hasOut j k)) := by
  have h1 := ha.head.k; have h2 := hc.head.k
  have hc3 : ∀ n, ¬ c.k = n ∨ c.k = n := fun n => by omega
  cases j with
  | null => exact shas_other a c _ (fun j h => by cases h) (Or.inl ⟨h1, rfl⟩)
  | bool b =>
    refine shas_other a c _ (fun j h => by cases h) (Or.inr ⟨?_, rfl⟩)
    cases b
    · exact Or.inl h1
    · exact Or.inr (Or.inl h1)
  | num h => exact shas_other a c _ (fun j h => by cases h) (Or.inr ⟨Or.inr (Or.inr (Or.inl h1)), rfl⟩)
  | str h => exact shas_other a c _ (fun j h => by cases h) (Or.inr ⟨Or.inr (Or.inr (Or.inr (Or.inl h1))), rfl⟩)
  | arr l =>
    have no : ¬ c.k = 3 → (∀ j, hasOut (.arr l) k ≠ .value j) → (hasOut (.arr l) k).how = 1 → Calls Tryz.prog 45 #[a.val, c.val] w (SpecOut w (hasOut (.arr l) k)) :=
      fun hn ho hw => shas_other a c _ ho (Or.inr ⟨Or.inr (Or.inr (Or.inr (Or.inr (Or.inl ⟨h1, hn⟩)))), hw⟩)
    cases k with
    | num h =>
      rw [JOK] at hk
      exact shas_arr_num l a c h h1 ha.head.ll h2 hc.head.h hk.1.1 hk.1.2.1 _ rfl
    | null => exact no (by rw [h2]; decide) (fun j h => by cases h) rfl
    | bool b => exact no (by rw [h2]; cases b <;> decide) (fun j h => by cases h) rfl
    | str s => exact no (by rw [h2]; simp [J.kind]) (fun j h => by cases h) rfl
    | arr s => exact no (by rw [h2]; simp [J.kind]) (fun j h => by cases h) rfl
    | obj s => exact no (by rw [h2]; simp [J.kind]) (fun j h => by cases h) rfl
  | obj m =>
    have no : ¬ c.k = 4 → (∀ j, hasOut (.obj m) k ≠ .value j) → (hasOut (.obj m) k).how = 1 → Calls Tryz.prog 45 #[a.val, c.val] w (SpecOut w (hasOut (.obj m) k)) :=
      fun hn ho hw => shas_other a c _ ho (Or.inr ⟨Or.inr (Or.inr (Or.inr (Or.inr (Or.inr ⟨h1, hn⟩)))), hw⟩)
    cases k with
    | str s => exact shas_obj_str m a c s ha hj hS h2 hc.head.s
    | null => exact no (by rw [h2]; decide) (fun j h => by cases h) rfl
    | bool b => exact no (by rw [h2]; cases b <;> decide) (fun j h => by cases h) rfl
    | num s => exact no (by rw [h2]; simp [J.kind]) (fun j h => by cases h) rfl
    | arr s => exact no (by rw [h2]; simp [J.kind]) (fun j h => by cases h) rfl
    | obj s => exact no (by rw [h2]; simp [J.kind]) (fun j h => by cases h) rfl
end Go.Proofs.YtfgmegfgifeaiaaGreatDoor

namespace Go.Proofs.YtfgmegfgifeaiaaGreatDoor
open Go.RowKit

def FalsePost (w : World) (e : Ending) (w' : World) : Prop := e = .returned (.bool false) ∧ Below w.heap.size w w'

/-- The elements that a slice of Values shows, each smaller than z. -/
def Elems (w : World) (S : Nat → Prop) (a : Option Addr) (n z : Nat) : Prop :=
  ∀ i, i < n → ∃ (k : J) (b o : Nat) (x : VC), a = some ⟨b, o, none⟩ ∧ S b ∧ At6 w b (o + i * 6) x ∧ VR w S k x ∧ JOK k ∧ SizeOf.sizeOf k < z

theorem elems_of {w : World} {S : Nat → Prop} {j : J} {c : VC} (hok : JOK j) (hV : VR w S j c) : Elems w S c.la c.ll (SizeOf.sizeOf j) ∧ Elems w S c.va c.vl (SizeOf.sizeOf j) := by
  have hh := hV.head
  rw [JOK] at hok
  rw [VR] at hV
  refine ⟨fun i hi => ?_, fun i hi => ?_⟩
  · rw [hh.ll] at hi
    obtain ⟨b, o, x, h1, h2, h3, h4⟩ := hV.2.1 i hi
    exact ⟨_, b, o, x, h1, h2, h3, h4, hok.2.2.2.2.1 i hi, sizeOf_list j hi⟩
  · rw [hh.vl] at hi
    obtain ⟨b, o, x, h1, h2, h3, h4⟩ := hV.2.2.2 i hi
    exact ⟨_, b, o, x, h1, h2, h3, h4, hok.2.2.2.2.2.2.2 i hi, sizeOf_ents j hi⟩

set_option maxHeartbeats 1000000 in
theorem Vague_any (n : Nat) : ∀ (j : J) (c : VC) (w : World) (S : Nat → Prop), SizeOf.sizeOf j ≤ n → JOK j → VR w S j c → (∀ b, S b → b < w.heap.size) → Calls Tryz.prog 22 #[c.val] w (FalsePost w) := by
  induction n with
  | zero => intro j c w S hn; cases j <;> simp at hn
  | succ n ih =>
    intro j c w S hn hok hV hS
    have hh := hV.head
    have E0 := Lib.hid (box_alloc w c)
    have hb0 : Below w.heap.size w (w.alloc (.cells c.arr 26)) := (Below.refl _ _).alloc (Nat.le_refl _) _
    have HB0 := Lib.hid hb0
    have HI : ∀ (k : J) (x : VC) (w' : World), SizeOf.sizeOf k < SizeOf.sizeOf j → JOK k → VR w' S k x → (∀ b, S b → b < w'.heap.size) → Calls Tryz.prog 22 #[x.val] w' (FalsePost w') := fun k x w' hk => ih k x w' S (by omega)
    obtain ⟨ea, ev⟩ := elems_of hok hV
    have HJ := Lib.hid HI; have HS := Lib.hid hS; have EA := Lib.hid ea; have EV := Lib.hid ev
    rw [JOK] at hok
    have l1 : c.ll ≤ 400 := by rw [hh.ll]; exact hok.2.2.1
    have l2 : c.vl ≤ 400 := by rw [hh.vl]; exact hok.2.2.2.1
    have hk7 : ¬ c.k = 7 := by rw [hh.k]; cases j <;> simp [J.kind]; split <;> simp
    clear HI ih hn hV hb0 hS hok hh ea ev
    obtain ⟨k0, h0, s0, la, L, lc, ka, kl, kc, va, E, vc⟩ := c
    simp only at l1 l2 hk7
    unfold VC.val
    unfold VC.arr at *
    simp only at EA EV
    go_enter Tryz.func22, Tryz.ntmps22
    go_wp2_with fail
    go_loopw [10] (fun i wr => ∃ m : Nat, i = .int .i64 m ∧ m ≤ L ∧ Below (w.heap.size + 1) (w.alloc (.cells #[.int .i64 k0, .int .i64 h0, .string s0, .slice la L lc, .slice ka kl kc, .slice va E vc] 26)) wr) (fun i _ => L - (intOf i).toNat)
    case atStart => exact ⟨0, rfl, Nat.zero_le _, Below.refl _ _⟩
    case round =>
      obtain ⟨m, rfl, hm, hbw⟩ := hrel
      have BW := Lib.hid hbw
      have hbw0 := HB0.out.trans (hbw.mono (by omega))
      by_cases hlt : m < L
      · obtain ⟨k, b1, o1, x, h1, h2, h3, h4, h5, h6⟩ := EA.out m hlt
        subst h1
        have c1 := h3.below hbw0 (HS.out _ h2)
        have g0 := c1.c0; have g1 := c1.c1; have g2 := c1.c2; have g3 := c1.c3; have g4 := c1.c4; have g5 := c1.c5
        have IH := HJ.out k x (wr.alloc (.cells x.arr 26)) h6 h5 (h4.go (fun b hb => by rw [Below.heap_alloc _ _ _ (by have := HS.out b hb; have := hbw0.size; omega)]; exact hbw0.block b (HS.out b hb)) (fun _ h => h)) (fun b hb => by have := HS.out b hb; have := hbw0.size; simp; omega)
        unfold VC.val VC.arr at IH
        have I := Lib.hid IH
        clear IH c1 h2 h3 h4 h5 h6 hbw hbw0
        go_wp2_with fail
        refine I.out.mono ?_
        rintro e w2 ⟨rfl, hb2⟩
        have B2 := Lib.hid ((BW.out.alloc (by have := BW.out.size; simpa using this) _).trans (hb2.mono (by have := BW.out.size; simp at this ⊢; omega)))
        clear hb2 g0 g1 g2 g3 g4 g5
        go_wp2_with fail
        go_roundw
        case rel => exact ⟨m + 1, by go_num, by omega, B2.out⟩
        case measure => simp [intOf]; omega
      · have e5 := (E0.out.below hbw (by omega)).c5
        clear hbw hbw0
        go_wp2_with fail
        go_loopw [20] (fun i wr => ∃ m : Nat, i = .int .i64 m ∧ m ≤ E ∧ Below (w.heap.size + 1) (w.alloc (.cells #[.int .i64 k0, .int .i64 h0, .string s0, .slice la L lc, .slice ka kl kc, .slice va E vc] 26)) wr) (fun i _ => E - (intOf i).toNat)
        case atStart => exact ⟨0, rfl, Nat.zero_le _, BW.out⟩
        case round =>
          obtain ⟨m, rfl, hm, hbw⟩ := hrel
          have BW := Lib.hid hbw
          have hbw0 := HB0.out.trans (hbw.mono (by omega))
          clear e5
          by_cases hlt : m < E
          · obtain ⟨k, b1, o1, x, h1, h2, h3, h4, h5, h6⟩ := EV.out m hlt
            subst h1
            have c1 := h3.below hbw0 (HS.out _ h2)
            have g0 := c1.c0; have g1 := c1.c1; have g2 := c1.c2; have g3 := c1.c3; have g4 := c1.c4; have g5 := c1.c5
            have IH := HJ.out k x (wr.alloc (.cells x.arr 26)) h6 h5 (h4.go (fun b hb => by rw [Below.heap_alloc _ _ _ (by have := HS.out b hb; have := hbw0.size; omega)]; exact hbw0.block b (HS.out b hb)) (fun _ h => h)) (fun b hb => by have := HS.out b hb; have := hbw0.size; simp; omega)
            unfold VC.val VC.arr at IH
            have I := Lib.hid IH
            clear IH c1 h2 h3 h4 h5 h6 hbw hbw0
            go_wp2_with fail
            refine I.out.mono ?_
            rintro e w2 ⟨rfl, hb2⟩
            have B2 := Lib.hid ((BW.out.alloc (by have := BW.out.size; simpa using this) _).trans (hb2.mono (by have := BW.out.size; simp at this ⊢; omega)))
            clear hb2 g0 g1 g2 g3 g4 g5
            go_wp2_with fail
            go_roundw
            case rel => exact ⟨m + 1, by go_num, by omega, B2.out⟩
            case measure => simp [intOf]; omega
          · have e0 := (E0.out.below hbw (by omega)).c0
            have W2 := Lib.hid hbw0
            clear hbw hbw0
            go_wp2_with fail
            go_ret
            exact ⟨by simp [hk7], W2.out⟩
end Go.Proofs.YtfgmegfgifeaiaaGreatDoor
