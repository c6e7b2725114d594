/- A part of the proof. -/
import Derived.Test.YtbdciilkapgfjaaGreatDoorM21
import Derived.Test.YtbdciilkapgfjaaGreatDoorZKnB
import Derived.Deep.DeepCutAuto
import Derived.Deep.CutBlock
import Derived.WalkMore
namespace Go.Proofs.YtbdciilkapgfjaaGreatDoor
open Go.RowKit

theorem results_tmp7 {fn : Func} {a b c d e f g : Tmp} (h : fn.results = #[.tmp a, .tmp b, .tmp c, .tmp d, .tmp e, .tmp f, .tmp g]) (tmps : Array Value) (P : Program) (w : World) :
    (results fn tmps).run P w = .ok (.tuple #[tmps.getD a undef, tmps.getD b undef, tmps.getD c undef, tmps.getD d undef, tmps.getD e undef, tmps.getD f undef, tmps.getD g undef]) w := by
  simp [results, h]

theorem iLower_46 (w : World) : Calls Tryz.prog 115 #[.int .u8 46] w fun e w' => e = .returned (.int .u8 46) ∧ w' = w := by
  go_enter Tryz.func115, Tryz.ntmps115
  go_wp2_with fail
  go_ret
  exact ⟨rfl, rfl⟩

theorem at_byte {s : ByteArray} {o c : Nat} (ho : o < s.size) (hc : byteAt s o = c) : (s[o]'ho).toNat = c := by
  subst hc
  unfold byteAt
  rw [dif_pos ho]

theorem wr_step {m c d : Nat} (hm : m ≤ 100000000000000000) (hc : c = 48 + d) (hd : d < 10) : IntKind.u64.wrap (IntKind.u64.wrap ((m : Int) * 10) + ((c : Int) - 48) % 256) = ((10 * m + d : Nat) : Int) := by
  simp [IntKind.wrap, IntKind.bits, IntKind.signed]; omega
theorem wr_step0 {m : Nat} (hm : m ≤ 100000000000000000) : IntKind.u64.wrap (IntKind.u64.wrap ((m : Int) * 10)) = ((10 * m : Nat) : Int) := by
  simp [IntKind.wrap, IntKind.bits, IntKind.signed]; omega
theorem wr_five {m : Nat} (hm : m ≤ 100000000000000000) : IntKind.u64.wrap (IntKind.u64.wrap ((m : Int) * 10) + 5) = ((10 * m + 5 : Nat) : Int) := by
  simp [IntKind.wrap, IntKind.bits, IntKind.signed]; omega

/-- How many digits count. -/
def cnt (k j : Nat) : Nat := if k = 0 then 0 else j

/-- A round of readFloat's loop: how far it is, and what is known. -/
def Far (k p q : Nat) (o m n : Nat) (dot saw : Bool) (dp : Int) : Prop :=
  (∃ j : Nat, j ≤ (digs k).length ∧ o = p + j ∧ m = pre k j ∧ dot = false ∧ saw = decide (0 < j) ∧ n = cnt k j ∧ dp = (if k = 0 then -(j : Int) else 0)) ∨
  (o = q + 1 ∧ m = k ∧ dot = true ∧ saw = true ∧ n = cnt k (digs k).length ∧ dp = n) ∨
  (o = q + 2 ∧ m = 10 * k + 5 ∧ dot = true ∧ saw = true ∧ n = cnt k (digs k).length + 1 ∧ dp + 1 = n)

/-- What readFloat gives. -/
def readTuple (neg : Bool) (k : Nat) (s : ByteArray) : Value := .tuple #[.int .u64 ((10 * k + 5 : Nat) : Int), .int .i64 (-1), .bool neg, .bool false, .bool false, .int .i64 (s.size : Int), .bool true]

set_option maxRecDepth 100000 in
set_option maxHeartbeats 4000000 in
theorem readFloat_any {s : ByteArray} {neg : Bool} {k p q : Nat} (h : HalfAt s neg k p q) (hk : k ≤ 10000000000000000) (w : World) :
    Calls Tryz.prog 150 #[.string s] w fun e w' => e = .returned (readTuple neg k s) ∧ w' = w := by
  have hlen := List.length_pos_iff.2 (digs_ne k)
  have hdl := digs_len (n := k) (k := 17) (by decide) (by omega)
  have hq := h.len; have hz := h.size; have hsm := h.small
  have hp1 : p ≤ 1 := by rw [h.sign]; cases neg <;> simp
  obtain ⟨d0, hd0⟩ : ∃ d0, d0 = (digs k)[0] := ⟨_, rfl⟩
  obtain ⟨c0, hc0⟩ : ∃ c0, c0 = 48 + d0 := ⟨_, rfl⟩
  have hps : p < s.size := by omega
  have ip := at_byte (s := s) (o := p) hps (h.d 0 hlen)
  rw [← hd0, ← hc0] at ip
  have hD0 : d0 < 10 := by rw [hd0]; exact digs_dig k _ (List.getElem_mem hlen)
  have LEN := Lib.hid hlen; have DL := Lib.hid hdl; have HQ := Lib.hid hq; have HZ := Lib.hid hz; have HD := Lib.hid hd0; have C0 := Lib.hid hc0
  have H := Lib.hid h; have HK := Lib.hid hk
  have n43 : ((c0 : Int) == 43) = false := by simp; omega
  have n45 : ((c0 : Int) == 45) = false := by simp; omega
  have hz3 : 3 ≤ s.size - p := by omega
  have hne : ¬ s = ByteArray.empty := by intro e; rw [e] at hz; simp at hz
  clear hd0 hc0 hk hdl hq hz
  cases neg with
  | false =>
    obtain rfl : p = 0 := h.sign
    clear h
    go_enter Tryz.func150, Tryz.ntmps150
    go_wp2_with fail
    go_step3
    go_upto_region 12 with fail
    go_cut [54] (fun b wx => b = .bool false ∧ wx = w)
    case first =>
      by_cases hk0 : k = 0
      · subst hk0
        have hq1 : q = 0 + 1 := by have := HQ.out; rw [digs_zero] at this; simpa using this
        have hos : 1 < s.size := by omega
        have ix := at_byte (s := s) (o := 1) (c := 46) hos (by have := H.out.dot; rw [hq1] at this; exact this)
        have l2 : decide ((2 : Int) < (s.size : Int)) = true := decide_eq_true (by omega)
        obtain rfl : c0 = 48 := by rw [C0.out, HD.out]; simp [digs_zero]
        clear hq1 n43 n45
        go_wp2_with fail
        refine (iLower_46 w).mono ?_
        rintro e w' ⟨rfl, rfl⟩
        go_wp2_with fail
        go_meet
        case rel => exact ⟨rfl, rfl⟩
      · have l2 : decide ((2 : Int) < (s.size : Int)) = true := decide_eq_true (by omega)
        have n48 : ((c0 : Int) == 48) = false := by
          have := digs_first hk0 LEN.out
          rw [C0.out, HD.out]; simp; omega
        go_wp2_with fail
        go_meet
        case rel => exact ⟨rfl, rfl⟩
    case rest =>
      obtain ⟨rfl, hwc⟩ := hcut
      subst hwc
      clear ip n43 n45 hne
      go_wp2_with fail
      go_step3
      go_wp2_with fail
      go_loop [2, 5, 7, 9, 13, 14, 15, 16, 17] (fun um u5 ui u9 uD ug un uM up => ∃ (o m n : Nat) (dot saw : Bool) (dp : Int), um = .int .u64 (m : Int) ∧ u5 = .bool false ∧ ui = .int .i64 (o : Int) ∧ u9 = .bool false ∧ uD = .bool dot ∧ ug = .bool saw ∧ un = .int .i64 (n : Int) ∧ uM = .int .i64 (n : Int) ∧ up = .int .i64 dp ∧ Far k 0 q o m n dot saw dp) (fun _ _ ui _ _ _ _ _ _ => s.size - (intOf ui).toNat)
      case atStart => exact ⟨0, 0, 0, false, false, 0, rfl, rfl, rfl, rfl, rfl, rfl, rfl, rfl, rfl, Or.inl ⟨0, Nat.zero_le _, rfl, (pre_zero k).symm, rfl, rfl, by simp [cnt], by simp⟩⟩
      case round =>
        obtain ⟨o, m, n, dot, saw, dp, rfl, rfl, rfl, rfl, rfl, rfl, rfl, rfl, rfl, hF⟩ := hrel
        have HF := Lib.hid hF
        by_cases ho : o < s.size
        · have l0 : decide ((o : Int) < (s.size : Int)) = true := decide_eq_true (by omega)
          rcases hF with ⟨j, hj, hO, hM, rfl, hS, hN, hP⟩ | ⟨hO, hM, rfl, rfl, hN, hP⟩ | ⟨hO, _⟩
          · by_cases hjl : j < (digs k).length
            · obtain ⟨d, hd⟩ : ∃ d, d = (digs k)[j] := ⟨_, rfl⟩
              obtain ⟨c, hc⟩ : ∃ c, c = 48 + d := ⟨_, rfl⟩
              have hd10 : d < 10 := by rw [hd]; exact digs_dig k _ (List.getElem_mem hjl)
              have eo := at_byte (s := s) (o := o) (c := c) ho (by rw [hO, hc, hd]; exact H.out.d j hjl)
              have n95 : ((c : Int) == 95) = false := by simp; omega
              have n46 : ((c : Int) == 46) = false := by simp; omega
              have d48 : decide ((48 : Int) ≤ (c : Int)) = true := decide_eq_true (by omega)
              have d57 : decide ((c : Int) ≤ 57) = true := decide_eq_true (by omega)
              have hmk : m ≤ k := by rw [hM]; exact pre_le k j ((digs k).length - j) (by omega)
              have hn17 : n ≤ 17 := by have := DL.out; rw [hN, cnt]; split <;> omega
              have HO := Lib.hid hO; have HM := Lib.hid hM; have HS := Lib.hid hS; have HN := Lib.hid hN; have HP := Lib.hid hP; have HC := Lib.hid hc; have HE := Lib.hid hd; have HJ := Lib.hid hjl
              clear hO hM hS hN hP hc hj
              by_cases hk0 : k = 0
              · have hj0 : j = 0 := by have := HJ.out; rw [hk0, digs_zero] at this; simpa using this
                obtain rfl : n = 0 := by rw [HN.out, hk0]; simp [cnt]
                obtain rfl : c = 48 := by rw [HC.out, HE.out]; simp [hk0, digs_zero]
                obtain rfl : dp = 0 := by rw [HP.out, hj0, hk0]; simp
                obtain rfl : m = 0 := by rw [HM.out, hj0, pre_zero]
                have HK0 := Lib.hid hk0; have HJ0 := Lib.hid hj0
                clear n95 n46 d48 d57 hk0 hj0 hmk hd
                go_wp2_with fail
                go_round
                case rel => exact ⟨o + 1, 0, 0, false, true, -1, rfl, rfl, rfl, rfl, rfl, rfl, rfl, rfl, rfl, Or.inl ⟨1, by have := LEN.out; omega, by have := HO.out; have := HJ0.out; omega, by rw [HK0.out]; decide +kernel, rfl, rfl, by simp [cnt, HK0.out], by simp [HK0.out]⟩⟩
                case measure => simp [intOf]; omega
              · have l19 : decide ((n : Int) < 19) = true := decide_eq_true (by omega)
                by_cases hc48 : c = 48
                · have nn : ((n : Int) == 0) = false := by
                    have hj0 : j ≠ 0 := by
                      intro e
                      have := digs_first hk0 LEN.out
                      have e2 := HE.out
                      have e3 := HC.out
                      simp only [e] at e2
                      omega
                    rw [HN.out, cnt, if_neg hk0]; simp; omega
                  have HK0 := Lib.hid hk0
                  subst hc48
                  clear n95 n46 d48 d57 hk0 hd
                  go_wp2_with fail
                  go_round
                  case rel =>
                    refine ⟨o + 1, 10 * m, n + 1, false, true, dp, by rw [wr_step0 (by have := HK.out; omega)], rfl, rfl, rfl, rfl, rfl, rfl, rfl, rfl, Or.inl ⟨j + 1, HJ.out, by have := HO.out; omega, ?_, rfl, by simp, by rw [HN.out]; simp [cnt, HK0.out], by rw [HP.out]; simp [HK0.out]⟩⟩
                    rw [pre_succ HJ.out, ← HE.out, HM.out]
                    have := HC.out
                    omega
                  case measure => simp [intOf]; omega
                · have n48 : ((c : Int) == 48) = false := by simp; omega
                  have HK0 := Lib.hid hk0
                  clear hk0 hd hc48
                  go_wp2_with fail
                  go_round
                  case rel =>
                    refine ⟨o + 1, 10 * m + d, n + 1, false, true, dp, by rw [wr_step (by have := HK.out; omega) HC.out hd10], rfl, rfl, rfl, rfl, rfl, rfl, rfl, rfl, Or.inl ⟨j + 1, HJ.out, by have := HO.out; omega, ?_, rfl, by simp, by rw [HN.out]; simp [cnt, HK0.out], by rw [HP.out]; simp [HK0.out]⟩⟩
                    rw [pre_succ HJ.out, ← HE.out, HM.out]
                  case measure => simp [intOf]; omega
            · have hj2 : j = (digs k).length := by omega
              have eo := at_byte (s := s) (o := o) (c := 46) ho (by rw [hO, hj2, ← HQ.out]; exact H.out.dot)
              have hn17 : n ≤ 17 := by have := DL.out; rw [hN, cnt]; split <;> omega
              have HO := Lib.hid hO; have HM := Lib.hid hM; have HS := Lib.hid hS; have HN := Lib.hid hN; have HJ := Lib.hid hj2
              clear hO hM hS hN hP hj hj2 hjl
              go_wp2_with fail
              go_round
              case rel =>
                refine ⟨o + 1, m, n, true, saw, (n : Int), rfl, rfl, rfl, rfl, rfl, rfl, rfl, rfl, rfl, Or.inr (Or.inl ⟨?_, ?_, rfl, ?_, ?_, rfl⟩)⟩
                · have := HO.out; have := HJ.out; have := HQ.out; omega
                · rw [HM.out, HJ.out, pre_all]
                · rw [HS.out, HJ.out]; exact decide_eq_true LEN.out
                · rw [HN.out, HJ.out]
              case measure => simp [intOf]; omega
          · have eo := at_byte (s := s) (o := o) (c := 53) ho (by rw [hO]; exact H.out.five)
            have hn17 : n ≤ 17 := by have := DL.out; rw [hN, cnt]; split <;> omega
            have l19 : decide ((n : Int) < 19) = true := decide_eq_true (by omega)
            have hmk : m ≤ k := by omega
            have HO := Lib.hid hO; have HM := Lib.hid hM; have HN := Lib.hid hN; have HP := Lib.hid hP
            clear hO hM hN hP
            go_wp2_with fail
            go_round
            case rel =>
              refine ⟨o + 1, 10 * m + 5, n + 1, true, true, dp, by rw [wr_five (by have := HK.out; omega)], rfl, rfl, rfl, rfl, rfl, rfl, rfl, rfl, Or.inr (Or.inr ⟨?_, ?_, rfl, rfl, ?_, ?_⟩)⟩
              · have := HO.out; omega
              · rw [HM.out]
              · rw [HN.out]
              · rw [HP.out]; simp
            case measure => simp [intOf]; omega
          · have := HZ.out; omega
        · have hz := HZ.out; have hq := HQ.out
          obtain ⟨hO, hM, rfl, rfl, hN, hP⟩ : o = q + 2 ∧ m = 10 * k + 5 ∧ dot = true ∧ saw = true ∧ n = cnt k (digs k).length + 1 ∧ dp + 1 = n := by
            rcases hF with ⟨j, hj, hO, _⟩ | ⟨hO, _⟩ | h
            · omega
            · omega
            · exact h
          obtain rfl : dp = (n : Int) - 1 := by omega
          obtain rfl : o = s.size := by omega
          have m0 : ((m : Int) == 0) = false := by simp; omega
          have hn17 : n ≤ 18 := by have := DL.out; rw [hN, cnt]; split <;> omega
          have HM := Lib.hid hM
          clear hO hM hN hP hF hz hq ho
          go_wp2_with fail
          have e1 : (n : Int) - 1 - (n : Int) = -1 := by omega
          rw [e1]
          refine bodyPost_ret (results_tmp7 rfl _ _ _) rfl ?_
          exact ⟨by rw [HM.out]; rfl, rfl⟩
  | true =>
    obtain rfl : p = 1 := h.sign
    have hzs : 0 < s.size := by omega
    have i0 := at_byte (s := s) (o := 0) (c := 45) hzs (h.minus rfl)
    clear h
    go_enter Tryz.func150, Tryz.ntmps150
    go_wp2_with fail
    go_step3
    go_upto_region 12 with fail
    go_cut [54] (fun b wx => b = .bool false ∧ wx = w)
    case first =>
      by_cases hk0 : k = 0
      · subst hk0
        have hq1 : q = 1 + 1 := by have := HQ.out; rw [digs_zero] at this; simpa using this
        have hos : 2 < s.size := by omega
        have ix := at_byte (s := s) (o := 2) (c := 46) hos (by have := H.out.dot; rw [hq1] at this; exact this)
        have l2 : decide ((3 : Int) < (s.size : Int)) = true := decide_eq_true (by omega)
        obtain rfl : c0 = 48 := by rw [C0.out, HD.out]; simp [digs_zero]
        clear hq1 n43 n45
        go_wp2_with fail
        refine (iLower_46 w).mono ?_
        rintro e w' ⟨rfl, rfl⟩
        go_wp2_with fail
        go_meet
        case rel => exact ⟨rfl, rfl⟩
      · have l2 : decide ((3 : Int) < (s.size : Int)) = true := decide_eq_true (by omega)
        have n48 : ((c0 : Int) == 48) = false := by
          have := digs_first hk0 LEN.out
          rw [C0.out, HD.out]; simp; omega
        go_wp2_with fail
        go_meet
        case rel => exact ⟨rfl, rfl⟩
    case rest =>
      obtain ⟨rfl, hwc⟩ := hcut
      subst hwc
      clear ip n43 n45 hne
      go_wp2_with fail
      go_step3
      go_wp2_with fail
      go_loop [2, 5, 7, 9, 13, 14, 15, 16, 17] (fun um u5 ui u9 uD ug un uM up => ∃ (o m n : Nat) (dot saw : Bool) (dp : Int), um = .int .u64 (m : Int) ∧ u5 = .bool false ∧ ui = .int .i64 (o : Int) ∧ u9 = .bool false ∧ uD = .bool dot ∧ ug = .bool saw ∧ un = .int .i64 (n : Int) ∧ uM = .int .i64 (n : Int) ∧ up = .int .i64 dp ∧ Far k 1 q o m n dot saw dp) (fun _ _ ui _ _ _ _ _ _ => s.size - (intOf ui).toNat)
      case atStart => exact ⟨1, 0, 0, false, false, 0, rfl, rfl, rfl, rfl, rfl, rfl, rfl, rfl, rfl, Or.inl ⟨0, Nat.zero_le _, rfl, (pre_zero k).symm, rfl, rfl, by simp [cnt], by simp⟩⟩
      case round =>
        obtain ⟨o, m, n, dot, saw, dp, rfl, rfl, rfl, rfl, rfl, rfl, rfl, rfl, rfl, hF⟩ := hrel
        have HF := Lib.hid hF
        by_cases ho : o < s.size
        · have l0 : decide ((o : Int) < (s.size : Int)) = true := decide_eq_true (by omega)
          rcases hF with ⟨j, hj, hO, hM, rfl, hS, hN, hP⟩ | ⟨hO, hM, rfl, rfl, hN, hP⟩ | ⟨hO, _⟩
          · by_cases hjl : j < (digs k).length
            · obtain ⟨d, hd⟩ : ∃ d, d = (digs k)[j] := ⟨_, rfl⟩
              obtain ⟨c, hc⟩ : ∃ c, c = 48 + d := ⟨_, rfl⟩
              have hd10 : d < 10 := by rw [hd]; exact digs_dig k _ (List.getElem_mem hjl)
              have eo := at_byte (s := s) (o := o) (c := c) ho (by rw [hO, hc, hd]; exact H.out.d j hjl)
              have n95 : ((c : Int) == 95) = false := by simp; omega
              have n46 : ((c : Int) == 46) = false := by simp; omega
              have d48 : decide ((48 : Int) ≤ (c : Int)) = true := decide_eq_true (by omega)
              have d57 : decide ((c : Int) ≤ 57) = true := decide_eq_true (by omega)
              have hmk : m ≤ k := by rw [hM]; exact pre_le k j ((digs k).length - j) (by omega)
              have hn17 : n ≤ 17 := by have := DL.out; rw [hN, cnt]; split <;> omega
              have HO := Lib.hid hO; have HM := Lib.hid hM; have HS := Lib.hid hS; have HN := Lib.hid hN; have HP := Lib.hid hP; have HC := Lib.hid hc; have HE := Lib.hid hd; have HJ := Lib.hid hjl
              clear hO hM hS hN hP hc hj
              by_cases hk0 : k = 0
              · have hj0 : j = 0 := by have := HJ.out; rw [hk0, digs_zero] at this; simpa using this
                obtain rfl : n = 0 := by rw [HN.out, hk0]; simp [cnt]
                obtain rfl : c = 48 := by rw [HC.out, HE.out]; simp [hk0, digs_zero]
                obtain rfl : dp = 0 := by rw [HP.out, hj0, hk0]; simp
                obtain rfl : m = 0 := by rw [HM.out, hj0, pre_zero]
                have HK0 := Lib.hid hk0; have HJ0 := Lib.hid hj0
                clear n95 n46 d48 d57 hk0 hj0 hmk hd
                go_wp2_with fail
                go_round
                case rel => exact ⟨o + 1, 0, 0, false, true, -1, rfl, rfl, rfl, rfl, rfl, rfl, rfl, rfl, rfl, Or.inl ⟨1, by have := LEN.out; omega, by have := HO.out; have := HJ0.out; omega, by rw [HK0.out]; decide +kernel, rfl, rfl, by simp [cnt, HK0.out], by simp [HK0.out]⟩⟩
                case measure => simp [intOf]; omega
              · have l19 : decide ((n : Int) < 19) = true := decide_eq_true (by omega)
                by_cases hc48 : c = 48
                · have nn : ((n : Int) == 0) = false := by
                    have hj0 : j ≠ 0 := by
                      intro e
                      have := digs_first hk0 LEN.out
                      have e2 := HE.out
                      have e3 := HC.out
                      simp only [e] at e2
                      omega
                    rw [HN.out, cnt, if_neg hk0]; simp; omega
                  have HK0 := Lib.hid hk0
                  subst hc48
                  clear n95 n46 d48 d57 hk0 hd
                  go_wp2_with fail
                  go_round
                  case rel =>
                    refine ⟨o + 1, 10 * m, n + 1, false, true, dp, by rw [wr_step0 (by have := HK.out; omega)], rfl, rfl, rfl, rfl, rfl, rfl, rfl, rfl, Or.inl ⟨j + 1, HJ.out, by have := HO.out; omega, ?_, rfl, by simp, by rw [HN.out]; simp [cnt, HK0.out], by rw [HP.out]; simp [HK0.out]⟩⟩
                    rw [pre_succ HJ.out, ← HE.out, HM.out]
                    have := HC.out
                    omega
                  case measure => simp [intOf]; omega
                · have n48 : ((c : Int) == 48) = false := by simp; omega
                  have HK0 := Lib.hid hk0
                  clear hk0 hd hc48
                  go_wp2_with fail
                  go_round
                  case rel =>
                    refine ⟨o + 1, 10 * m + d, n + 1, false, true, dp, by rw [wr_step (by have := HK.out; omega) HC.out hd10], rfl, rfl, rfl, rfl, rfl, rfl, rfl, rfl, Or.inl ⟨j + 1, HJ.out, by have := HO.out; omega, ?_, rfl, by simp, by rw [HN.out]; simp [cnt, HK0.out], by rw [HP.out]; simp [HK0.out]⟩⟩
                    rw [pre_succ HJ.out, ← HE.out, HM.out]
                  case measure => simp [intOf]; omega
            · have hj2 : j = (digs k).length := by omega
              have eo := at_byte (s := s) (o := o) (c := 46) ho (by rw [hO, hj2, ← HQ.out]; exact H.out.dot)
              have hn17 : n ≤ 17 := by have := DL.out; rw [hN, cnt]; split <;> omega
              have HO := Lib.hid hO; have HM := Lib.hid hM; have HS := Lib.hid hS; have HN := Lib.hid hN; have HJ := Lib.hid hj2
              clear hO hM hS hN hP hj hj2 hjl
              go_wp2_with fail
              go_round
              case rel =>
                refine ⟨o + 1, m, n, true, saw, (n : Int), rfl, rfl, rfl, rfl, rfl, rfl, rfl, rfl, rfl, Or.inr (Or.inl ⟨?_, ?_, rfl, ?_, ?_, rfl⟩)⟩
                · have := HO.out; have := HJ.out; have := HQ.out; omega
                · rw [HM.out, HJ.out, pre_all]
                · rw [HS.out, HJ.out]; exact decide_eq_true LEN.out
                · rw [HN.out, HJ.out]
              case measure => simp [intOf]; omega
          · have eo := at_byte (s := s) (o := o) (c := 53) ho (by rw [hO]; exact H.out.five)
            have hn17 : n ≤ 17 := by have := DL.out; rw [hN, cnt]; split <;> omega
            have l19 : decide ((n : Int) < 19) = true := decide_eq_true (by omega)
            have hmk : m ≤ k := by omega
            have HO := Lib.hid hO; have HM := Lib.hid hM; have HN := Lib.hid hN; have HP := Lib.hid hP
            clear hO hM hN hP
            go_wp2_with fail
            go_round
            case rel =>
              refine ⟨o + 1, 10 * m + 5, n + 1, true, true, dp, by rw [wr_five (by have := HK.out; omega)], rfl, rfl, rfl, rfl, rfl, rfl, rfl, rfl, Or.inr (Or.inr ⟨?_, ?_, rfl, rfl, ?_, ?_⟩)⟩
              · have := HO.out; omega
              · rw [HM.out]
              · rw [HN.out]
              · rw [HP.out]; simp
            case measure => simp [intOf]; omega
          · have := HZ.out; omega
        · have hz := HZ.out; have hq := HQ.out
          obtain ⟨hO, hM, rfl, rfl, hN, hP⟩ : o = q + 2 ∧ m = 10 * k + 5 ∧ dot = true ∧ saw = true ∧ n = cnt k (digs k).length + 1 ∧ dp + 1 = n := by
            rcases hF with ⟨j, hj, hO, _⟩ | ⟨hO, _⟩ | h
            · omega
            · omega
            · exact h
          obtain rfl : dp = (n : Int) - 1 := by omega
          obtain rfl : o = s.size := by omega
          have m0 : ((m : Int) == 0) = false := by simp; omega
          have hn17 : n ≤ 18 := by have := DL.out; rw [hN, cnt]; split <;> omega
          have HM := Lib.hid hM
          clear hO hM hN hP hF hz hq ho
          go_wp2_with fail
          have e1 : (n : Int) - 1 - (n : Int) = -1 := by omega
          rw [e1]
          refine bodyPost_ret (results_tmp7 rfl _ _ _) rfl ?_
          exact ⟨by rw [HM.out]; rfl, rfl⟩
end Go.Proofs.YtbdciilkapgfjaaGreatDoor
