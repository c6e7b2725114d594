/- A part of the proof. -/
import Derived.Test.YtbdciilkapgfjaaGreatDoorZRow
import Derived.Test.YtbdciilkapgfjaaGreatDoorM18
import Derived.LoopTactic
import Derived.Laws.BytesArg
namespace Go.Proofs.YtbdciilkapgfjaaGreatDoor
open Go.RowKit

/-- Digits as a text. -/
def dtxt (D : List Nat) : ByteArray := strOfNums (D.map fun d => ((48 + d : Nat) : Int))

/-- What has been written of the digits of n, from the last one on. -/
def Wrote (n m : Nat) (suf : List Nat) : Prop := (suf = [] ∧ m = n) ∨ (suf ≠ [] ∧ 0 < m ∧ digs n = digs m ++ suf) ∨ (suf ≠ [] ∧ m = 0 ∧ digs n = suf)
theorem Wrote.step {n m : Nat} {suf : List Nat} (h : Wrote n m suf) (hm : suf = [] ∨ 0 < m) : Wrote n (m / 10) (m % 10 :: suf) := by
  have one : digs n = digs m ++ suf := by
    rcases h with ⟨rfl, rfl⟩ | ⟨_, _, h⟩ | ⟨h1, h2, _⟩
    · simp
    · exact h
    · rcases hm with h3 | h3
      · exact absurd h3 h1
      · omega
  by_cases h9 : m < 10
  · refine Or.inr (Or.inr ⟨by simp, by omega, ?_⟩)
    rw [one, digs_lt h9, Nat.mod_eq_of_lt h9]; rfl
  · refine Or.inr (Or.inl ⟨by simp, by omega, ?_⟩)
    rw [one, digs_ge h9]; simp
theorem Wrote.len {n m : Nat} {suf : List Nat} (h : Wrote n m suf) (hn : n < 18446744073709551616) (hm : suf = [] ∨ 0 < m) : suf.length < 20 := by
  have h1 : (digs n).length ≤ 20 := digs_len (by decide) (by omega)
  rcases h with ⟨rfl, rfl⟩ | ⟨_, _, h⟩ | ⟨h2, h3, _⟩
  · simp
  · have h2 : 0 < (digs m).length := List.length_pos_iff.2 (digs_ne m)
    rw [h, List.length_append] at h1; omega
  · rcases hm with h4 | h4
    · exact absurd h4 h2
    · omega
theorem Wrote.dig {n m : Nat} {suf : List Nat} (h : Wrote n m suf) : ∀ d ∈ suf, d < 10 := by
  rcases h with ⟨rfl, _⟩ | ⟨_, _, h⟩ | ⟨_, _, h⟩
  · intro d hd; cases hd
  · intro d hd; exact digs_dig n d (by rw [h]; exact List.mem_append_right _ hd)
  · intro d hd; exact digs_dig n d (by rw [h]; exact hd)

theorem index_d0 (w : World) : (Instr.index 9 (.string ⟨(48 :: 49 :: 50 :: 51 :: 52 :: 53 :: 54 :: 55 :: 56 :: 57 :: 97 :: 98 :: 99 :: 100 :: 101 :: 102 :: 103 :: 104 :: 105 :: 106 :: 107 :: 108 :: 109 :: 110 :: 111 :: 112 :: 113 :: 114 :: 115 :: 116 :: 117 :: 118 :: 119 :: 120 :: 121 :: 122 :: []).toArray⟩) (.int .u64 0)).run Tryz.prog w = .ok (.int .u8 48) w := by kernel_rfl
theorem index_d1 (w : World) : (Instr.index 9 (.string ⟨(48 :: 49 :: 50 :: 51 :: 52 :: 53 :: 54 :: 55 :: 56 :: 57 :: 97 :: 98 :: 99 :: 100 :: 101 :: 102 :: 103 :: 104 :: 105 :: 106 :: 107 :: 108 :: 109 :: 110 :: 111 :: 112 :: 113 :: 114 :: 115 :: 116 :: 117 :: 118 :: 119 :: 120 :: 121 :: 122 :: []).toArray⟩) (.int .u64 1)).run Tryz.prog w = .ok (.int .u8 49) w := by kernel_rfl
theorem index_d2 (w : World) : (Instr.index 9 (.string ⟨(48 :: 49 :: 50 :: 51 :: 52 :: 53 :: 54 :: 55 :: 56 :: 57 :: 97 :: 98 :: 99 :: 100 :: 101 :: 102 :: 103 :: 104 :: 105 :: 106 :: 107 :: 108 :: 109 :: 110 :: 111 :: 112 :: 113 :: 114 :: 115 :: 116 :: 117 :: 118 :: 119 :: 120 :: 121 :: 122 :: []).toArray⟩) (.int .u64 2)).run Tryz.prog w = .ok (.int .u8 50) w := by kernel_rfl
theorem index_d3 (w : World) : (Instr.index 9 (.string ⟨(48 :: 49 :: 50 :: 51 :: 52 :: 53 :: 54 :: 55 :: 56 :: 57 :: 97 :: 98 :: 99 :: 100 :: 101 :: 102 :: 103 :: 104 :: 105 :: 106 :: 107 :: 108 :: 109 :: 110 :: 111 :: 112 :: 113 :: 114 :: 115 :: 116 :: 117 :: 118 :: 119 :: 120 :: 121 :: 122 :: []).toArray⟩) (.int .u64 3)).run Tryz.prog w = .ok (.int .u8 51) w := by kernel_rfl
theorem index_d4 (w : World) : (Instr.index 9 (.string ⟨(48 :: 49 :: 50 :: 51 :: 52 :: 53 :: 54 :: 55 :: 56 :: 57 :: 97 :: 98 :: 99 :: 100 :: 101 :: 102 :: 103 :: 104 :: 105 :: 106 :: 107 :: 108 :: 109 :: 110 :: 111 :: 112 :: 113 :: 114 :: 115 :: 116 :: 117 :: 118 :: 119 :: 120 :: 121 :: 122 :: []).toArray⟩) (.int .u64 4)).run Tryz.prog w = .ok (.int .u8 52) w := by kernel_rfl
theorem index_d5 (w : World) : (Instr.index 9 (.string ⟨(48 :: 49 :: 50 :: 51 :: 52 :: 53 :: 54 :: 55 :: 56 :: 57 :: 97 :: 98 :: 99 :: 100 :: 101 :: 102 :: 103 :: 104 :: 105 :: 106 :: 107 :: 108 :: 109 :: 110 :: 111 :: 112 :: 113 :: 114 :: 115 :: 116 :: 117 :: 118 :: 119 :: 120 :: 121 :: 122 :: []).toArray⟩) (.int .u64 5)).run Tryz.prog w = .ok (.int .u8 53) w := by kernel_rfl
theorem index_d6 (w : World) : (Instr.index 9 (.string ⟨(48 :: 49 :: 50 :: 51 :: 52 :: 53 :: 54 :: 55 :: 56 :: 57 :: 97 :: 98 :: 99 :: 100 :: 101 :: 102 :: 103 :: 104 :: 105 :: 106 :: 107 :: 108 :: 109 :: 110 :: 111 :: 112 :: 113 :: 114 :: 115 :: 116 :: 117 :: 118 :: 119 :: 120 :: 121 :: 122 :: []).toArray⟩) (.int .u64 6)).run Tryz.prog w = .ok (.int .u8 54) w := by kernel_rfl
theorem index_d7 (w : World) : (Instr.index 9 (.string ⟨(48 :: 49 :: 50 :: 51 :: 52 :: 53 :: 54 :: 55 :: 56 :: 57 :: 97 :: 98 :: 99 :: 100 :: 101 :: 102 :: 103 :: 104 :: 105 :: 106 :: 107 :: 108 :: 109 :: 110 :: 111 :: 112 :: 113 :: 114 :: 115 :: 116 :: 117 :: 118 :: 119 :: 120 :: 121 :: 122 :: []).toArray⟩) (.int .u64 7)).run Tryz.prog w = .ok (.int .u8 55) w := by kernel_rfl
theorem index_d8 (w : World) : (Instr.index 9 (.string ⟨(48 :: 49 :: 50 :: 51 :: 52 :: 53 :: 54 :: 55 :: 56 :: 57 :: 97 :: 98 :: 99 :: 100 :: 101 :: 102 :: 103 :: 104 :: 105 :: 106 :: 107 :: 108 :: 109 :: 110 :: 111 :: 112 :: 113 :: 114 :: 115 :: 116 :: 117 :: 118 :: 119 :: 120 :: 121 :: 122 :: []).toArray⟩) (.int .u64 8)).run Tryz.prog w = .ok (.int .u8 56) w := by kernel_rfl
theorem index_d9 (w : World) : (Instr.index 9 (.string ⟨(48 :: 49 :: 50 :: 51 :: 52 :: 53 :: 54 :: 55 :: 56 :: 57 :: 97 :: 98 :: 99 :: 100 :: 101 :: 102 :: 103 :: 104 :: 105 :: 106 :: 107 :: 108 :: 109 :: 110 :: 111 :: 112 :: 113 :: 114 :: 115 :: 116 :: 117 :: 118 :: 119 :: 120 :: 121 :: 122 :: []).toArray⟩) (.int .u64 9)).run Tryz.prog w = .ok (.int .u8 57) w := by kernel_rfl
theorem index_digit (d : Nat) (hd : d < 10) (w : World) : (Instr.index 9 (.string ⟨(48 :: 49 :: 50 :: 51 :: 52 :: 53 :: 54 :: 55 :: 56 :: 57 :: 97 :: 98 :: 99 :: 100 :: 101 :: 102 :: 103 :: 104 :: 105 :: 106 :: 107 :: 108 :: 109 :: 110 :: 111 :: 112 :: 113 :: 114 :: 115 :: 116 :: 117 :: 118 :: 119 :: 120 :: 121 :: 122 :: []).toArray⟩) (.int .u64 (d : Int))).run Tryz.prog w = .ok (.int .u8 ((48 + d : Nat) : Int)) w := by
  have : d = 0 ∨ d = 1 ∨ d = 2 ∨ d = 3 ∨ d = 4 ∨ d = 5 ∨ d = 6 ∨ d = 7 ∨ d = 8 ∨ d = 9 := by omega
  rcases this with rfl | rfl | rfl | rfl | rfl | rfl | rfl | rfl | rfl | rfl
  · exact index_d0 w
  · exact index_d1 w
  · exact index_d2 w
  · exact index_d3 w
  · exact index_d4 w
  · exact index_d5 w
  · exact index_d6 w
  · exact index_d7 w
  · exact index_d8 w
  · exact index_d9 w

theorem wrap_u64 {q : Nat} (h : q < 18446744073709551616) : IntKind.u64.wrap (q : Int) = (q : Int) := by
  simp [IntKind.wrap, IntKind.bits, IntKind.signed]; omega

/-- Block N holds 64 bytes, the last ones those of suf. -/
def Bytes64 (w : World) (N : Nat) (suf : List Nat) : Prop := ∃ cur, w.heap[N]? = some (.cells cur 110 (0, 0)) ∧ cur.size = 64 ∧ ∀ p j (h : j < suf.length), p + suf.length = 64 → cur[p + j]? = some (.int .u8 ((48 + suf[j] : Nat) : Int))
theorem Bytes64.step {w : World} {N p d : Nat} {suf : List Nat} (h : Bytes64 w N suf) (hp : p + 1 + suf.length = 64) : Bytes64 (w.setCell ⟨N, p, none⟩ (.int .u8 ((48 + d : Nat) : Int))) N (d :: suf) := by
  obtain ⟨cur, h1, h2, h3⟩ := h
  refine ⟨_, heap_setCell_same w ⟨N, p, none⟩ _ h1 rfl, by simp [h2], fun q j hj hq => ?_⟩
  simp only [List.length_cons] at hq hj
  obtain rfl : q = p := by omega
  cases j with
  | zero =>
    show (cur.setIfInBounds q _)[q + 0]? = _
    simp [Array.getElem?_setIfInBounds, h2]; omega
  | succ j =>
    have := h3 (q + 1) j (by omega) (by omega)
    show (cur.setIfInBounds q _)[q + (j + 1)]? = _
    rw [Array.getElem?_setIfInBounds_ne (by omega), show q + (j + 1) = q + 1 + j by omega, this]
    simp

set_option maxRecDepth 100000 in
set_option maxHeartbeats 1000000 in
theorem FormatUint_any (n : Nat) (hn : n < 18446744073709551616) (w : World) :
    Calls Tryz.prog 106 #[.int .u64 (n : Int), .int .i64 10] w fun e w' => e = .returned (.string (dtxt (digs n))) ∧ Below w.heap.size w w' := by
  go_enter Tryz.func106, Tryz.ntmps106
  go_wp2_with fail
  go_loopw [0, 6] (fun un ui wr => ∃ (m p : Nat) (suf : List Nat), un = .int .u64 (m : Int) ∧ ui = .int .i64 (p : Int) ∧ p + suf.length = 64 ∧ Wrote n m suf ∧ m ≤ n ∧ Bytes64 wr w.heap.size suf ∧ Below w.heap.size w wr) (fun _ ui _ => (intOf ui).toNat)
  case atStart =>
    refine ⟨n, 64, [], rfl, rfl, rfl, Or.inl ⟨rfl, rfl⟩, Nat.le_refl _, ⟨_, heap_alloc_at _ _, rfl, fun p j h => absurd h (Nat.not_lt_zero j)⟩, (Below.refl _ _).alloc (Nat.le_refl _) _⟩
  case round =>
    obtain ⟨m, p, suf, rfl, rfl, hp, hW, hmn, hB, hlow⟩ := hrel
    have HP := Lib.hid hp; have HW := Lib.hid hW; have HB := Lib.hid hB; have HL := Lib.hid hlow; have HN := Lib.hid hn; have HMN := Lib.hid hmn
    by_cases hgo : suf = [] ∨ 0 < m
    · have hlt := hW.len hn hgo
      obtain ⟨p', rfl⟩ : ∃ p', p = p' + 1 := ⟨p - 1, by omega⟩
      obtain ⟨d, hd⟩ : ∃ d, d = m % 10 := ⟨_, rfl⟩
      obtain ⟨q, hq⟩ : ∃ q, q = m / 10 := ⟨_, rfl⟩
      have hidx := index_digit d (by omega)
      have ed : (m : Int) % 10 = (d : Int) := by omega
      have eq : (m : Int) / 10 = (q : Int) := by omega
      have hst := (hW.step hgo)
      rw [← hd, ← hq] at hst
      have HST := Lib.hid hst; have HQ := Lib.hid hq
      obtain ⟨cur, c1, c2, _⟩ := hB
      obtain ⟨x0, hcell⟩ : ∃ x0, wr.cell? ⟨w.heap.size, p', none⟩ = some x0 := ⟨cur[p']'(by omega), by simp [World.cell?, c1, show p' < cur.size by omega]⟩
      have hfr : wr.frozen? ⟨w.heap.size, p', none⟩ = false := by simp [World.frozen?, c1]
      have hp64 : (p' : Int) < 64 := by omega
      have LEN : Hid (p' + 1 + suf.length = 64) := HP
      have STP := Lib.hid (HB.out.step (d := d) HP.out)
      rcases hW with ⟨rfl, rfl⟩ | ⟨hne, hpos, _⟩ | ⟨hne, h0, _⟩
      · obtain rfl : p' = 63 := by simpa using hp
        clear hp hlow hn hst hgo hd hq c1 c2 hlt
        go_wp2_with fail
        go_roundw
        case rel => exact ⟨q, 63, [d], by rw [wrap_u64 (by have := HQ.out; have := HN.out; omega)], rfl, rfl, HST.out, by have := HQ.out; omega, STP.out, HL.out.setCell (by simp) _⟩
        case measure => simp [intOf]
      · have h64 : ((p' : Int) + 1 == 64) = false := by simp; have := List.length_pos_iff.2 hne; omega
        have hm0 : (0 : Int) < m := by omega
        clear hp hlow hn hst hgo hd hq c1 c2 hlt hpos hne hmn
        go_wp2_with fail
        go_roundw
        case rel => exact ⟨q, p', d :: suf, by rw [wrap_u64 (by have := HQ.out; have := HMN.out; have := HN.out; omega)], rfl, by have := LEN.out; simp; omega, HST.out, by have := HQ.out; have := HMN.out; omega, STP.out, HL.out.setCell (by simp) _⟩
        case measure => simp [intOf]
      · exact absurd h0 (by rcases hgo with h | h; exact absurd h hne; omega)
    · rcases hW with ⟨h1, _⟩ | ⟨_, h2, _⟩ | ⟨hne, h0, hdg⟩
      · exact absurd (Or.inl h1) hgo
      · exact absurd (Or.inr h2) hgo
      have h64 : ((p : Int) == 64) = false := by simp; have := List.length_pos_iff.2 hne; omega
      obtain ⟨cur, c1, c2, c3⟩ := hB
      have hcv := run_convert_bytes_arg (P := Tryz.prog) wr 105 5 Tryz.underlying105 Tryz.underlying5 w.heap.size p (64 - p) (64 - p) (suf.map fun d => ((48 + d : Nat) : Int)) (by simp; omega) (fun i hi => by
        have hi' : i < suf.length := by omega
        have := c3 p i hi' hp
        simp [World.cell?, c1, this, List.getD, hi']) 9 Tryz.underlying9
      have HE := Lib.hid hdg
      have hlen := List.length_pos_iff.2 hne
      have hps : (p : Int) ≤ 64 := by omega
      have hpt : ¬ p = 64 := by omega
      clear hlen
      have hm0 : decide (0 < m) = false := decide_eq_false (by omega)
      clear hp hlow hn hgo c1 c2 c3 hne hmn hdg h0
      go_wp2_with fail
      go_ret
      exact ⟨by rw [HE.out]; rfl, HL.out⟩
end Go.Proofs.YtbdciilkapgfjaaGreatDoor
