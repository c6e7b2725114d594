/- A part of the proof. A part of the proof. A part of the proof. A part of the proof. -/
import Derived.KernelRfl
namespace Go.Proofs.YtbdciilkapgfjaaGreatDoor

/-- What digits say, the first one first. -/
def dval (l : List Nat) : Nat := l.foldl (fun n d => 10 * n + d) 0

theorem dval_foldl (l : List Nat) (n : Nat) : l.foldl (fun n d => 10 * n + d) n = n * 10 ^ l.length + dval l := by
  induction l generalizing n with
  | nil => simp [dval]
  | cons d l ih =>
    simp only [List.foldl_cons, List.length_cons, dval]
    rw [ih, ih (10 * 0 + d), Nat.pow_succ]
    rw [Nat.add_mul]
    have : 10 * n * 10 ^ l.length = n * (10 ^ l.length * 10) := by rw [Nat.mul_comm 10 n, Nat.mul_assoc, Nat.mul_comm 10]
    rw [this]; simp only [Nat.mul_zero, Nat.zero_add]; omega
theorem dval_nil : dval [] = 0 := rfl
theorem dval_snoc (l : List Nat) (d : Nat) : dval (l ++ [d]) = 10 * dval l + d := by simp [dval]
theorem dval_append (l r : List Nat) : dval (l ++ r) = dval l * 10 ^ r.length + dval r := by
  rw [dval, List.foldl_append, dval_foldl]; rfl
theorem dval_cons (d : Nat) (l : List Nat) : dval (d :: l) = d * 10 ^ l.length + dval l := by
  have := dval_append [d] l
  simpa [dval] using this
theorem dval_zeros (k : Nat) : dval (List.replicate k 0) = 0 := by
  induction k with
  | zero => rfl
  | succ k ih => rw [List.replicate_succ', dval_snoc, ih]
theorem dval_lt {l : List Nat} (h : ∀ d ∈ l, d < 10) : dval l < 10 ^ l.length := by
  induction l with
  | nil => simp [dval]
  | cons d l ih =>
    rw [dval_cons, List.length_cons, Nat.pow_succ]
    have h1 := ih fun x hx => h x (List.mem_cons_of_mem _ hx)
    have h2 := h d List.mem_cons_self
    have : d * 10 ^ l.length ≤ 9 * 10 ^ l.length := Nat.mul_le_mul_right _ (by omega)
    omega
theorem dval_ge {d : Nat} {l : List Nat} (h : 0 < d) : 10 ^ l.length ≤ dval (d :: l) := by
  rw [dval_cons]
  have : 1 * 10 ^ l.length ≤ d * 10 ^ l.length := Nat.mul_le_mul_right _ h
  omega

/-- A decimal as the package keeps it: digits, the first not 0, the last neither. -/
structure Norm (D : List Nat) : Prop where
  dig : ∀ d ∈ D, d < 10
  fst : ∀ d, D.head? = some d → d ≠ 0
  lst : ∀ d, D.getLast? = some d → d ≠ 0

theorem Norm.nil : Norm [] := ⟨fun d h => (by cases h), fun d h => (by cases h), fun d h => (by cases h)⟩

theorem Norm.lo {D : List Nat} (h : Norm D) (hne : D ≠ []) : 10 ^ (D.length - 1) ≤ dval D := by
  cases D with
  | nil => exact absurd rfl hne
  | cons d l =>
    have : d ≠ 0 := h.fst d rfl
    simpa using dval_ge (l := l) (by omega : 0 < d)
theorem Norm.pos {D : List Nat} (h : Norm D) (hne : D ≠ []) : 0 < dval D := Nat.lt_of_lt_of_le (Nat.pow_pos (by decide)) (h.lo hne)
theorem Norm.mod {D : List Nat} (h : Norm D) (hne : D ≠ []) : dval D % 10 ≠ 0 := by
  obtain ⟨l, d, rfl⟩ : ∃ l d, D = l ++ [d] := ⟨D.dropLast, D.getLast hne, (List.dropLast_concat_getLast hne).symm⟩
  have h1 : d ≠ 0 := h.lst d (by simp)
  have h2 := h.dig d (by simp)
  rw [dval_snoc]
  omega

/-- Digits are told by their number and their value. -/
theorem dval_inj : ∀ {D E : List Nat}, D.length = E.length → (∀ d ∈ D, d < 10) → (∀ d ∈ E, d < 10) → dval D = dval E → D = E
  | [], [], _, _, _, _ => rfl
  | [], _ :: _, h, _, _, _ => by simp at h
  | _ :: _, [], h, _, _, _ => by simp at h
  | d :: D, e :: E, h, h1, h2, hv => by
    have hl : D.length = E.length := by simpa using h
    rw [dval_cons, dval_cons, hl] at hv
    have a1 := dval_lt fun x hx => h1 x (List.mem_cons_of_mem _ hx)
    have a2 := dval_lt fun x hx => h2 x (List.mem_cons_of_mem _ hx)
    rw [hl] at a1
    have hde : d = e := by
      rcases Nat.lt_trichotomy d e with hlt | rfl | hlt
      · have : (d + 1) * 10 ^ E.length ≤ e * 10 ^ E.length := Nat.mul_le_mul_right _ hlt
        rw [Nat.add_mul] at this; omega
      · rfl
      · have : (e + 1) * 10 ^ E.length ≤ d * 10 ^ E.length := Nat.mul_le_mul_right _ hlt
        rw [Nat.add_mul] at this; omega
    subst hde
    rw [dval_inj hl (fun x hx => h1 x (List.mem_cons_of_mem _ hx)) (fun x hx => h2 x (List.mem_cons_of_mem _ hx)) (by omega)]

theorem Norm.eq {D E : List Nat} (hD : Norm D) (hE : Norm E) (hD0 : D ≠ []) (hE0 : E ≠ []) (hv : dval D = dval E) : D = E := by
  refine dval_inj ?_ hD.dig hE.dig hv
  have a := hD.lo hD0; have b := dval_lt hD.dig; have c := hE.lo hE0; have d := dval_lt hE.dig
  rcases Nat.lt_trichotomy D.length E.length with h | h | h
  · have : 10 ^ D.length ≤ 10 ^ (E.length - 1) := Nat.pow_le_pow_right (by decide) (by omega)
    omega
  · exact h
  · have : 10 ^ E.length ≤ 10 ^ (D.length - 1) := Nat.pow_le_pow_right (by decide) (by omega)
    omega

/-- Two decimals that say the same number are one. -/
theorem Norm.same {D E : List Nat} (hD : Norm D) (hE : Norm E) (hD0 : D ≠ []) (hE0 : E ≠ []) {a b : Nat} (hv : dval D * 10 ^ a = dval E * 10 ^ b) : D = E ∧ a = b := by
  have key : ∀ {D E : List Nat} {a b : Nat}, Norm D → D ≠ [] → a < b → dval D * 10 ^ a = dval E * 10 ^ b → False := by
    intro D E a b hD hD0 hlt hv
    obtain ⟨k, rfl⟩ : ∃ k, b = a + (k + 1) := ⟨b - a - 1, by omega⟩
    rw [Nat.pow_add, Nat.mul_comm (10 ^ a), ← Nat.mul_assoc] at hv
    have := Nat.eq_of_mul_eq_mul_right (Nat.pow_pos (by decide)) hv
    have h2 := hD.mod hD0
    rw [this, Nat.pow_succ, ← Nat.mul_assoc] at h2
    simp at h2
  rcases Nat.lt_trichotomy a b with h | rfl | h
  · exact (key hD hD0 h hv).elim
  · exact ⟨hD.eq hE hD0 hE0 (Nat.eq_of_mul_eq_mul_right (Nat.pow_pos (by decide)) hv), rfl⟩
  · exact (key hE hE0 h hv.symm).elim

/-- Without the zeros at its end. -/
def trimD (D : List Nat) : List Nat := (D.reverse.dropWhile (· == 0)).reverse
theorem trimD_snoc0 (D : List Nat) : trimD (D ++ [0]) = trimD D := by simp [trimD]
theorem trimD_snoc {D : List Nat} {d : Nat} (h : d ≠ 0) : trimD (D ++ [d]) = D ++ [d] := by simp [trimD, h]
theorem trimD_nil : trimD [] = [] := rfl
theorem trimD_spec (D : List Nat) : ∃ k, D = trimD D ++ List.replicate k 0 ∧ ∀ d, (trimD D).getLast? = some d → d ≠ 0 := by
  induction h : D.length generalizing D with
  | zero =>
    obtain rfl := List.eq_nil_of_length_eq_zero h
    exact ⟨0, rfl, fun d h => by cases h⟩
  | succ n ih =>
    have hne : D ≠ [] := by intro e; subst e; simp at h
    obtain ⟨l, d, rfl⟩ : ∃ l d, D = l ++ [d] := ⟨D.dropLast, D.getLast hne, (List.dropLast_concat_getLast hne).symm⟩
    by_cases h0 : d = 0
    · subst h0
      rw [trimD_snoc0]
      obtain ⟨k, hk, hl⟩ := ih l (by simpa using h)
      refine ⟨k + 1, ?_, hl⟩
      rw [List.replicate_succ', ← List.append_assoc, ← hk]
    · rw [trimD_snoc h0]
      exact ⟨0, by simp, fun e he => by simp at he; omega⟩
theorem trimD_val (D : List Nat) : dval (trimD D) * 10 ^ (D.length - (trimD D).length) = dval D ∧ (trimD D).length ≤ D.length := by
  obtain ⟨k, hk, _⟩ := trimD_spec D
  have hl : D.length = (trimD D).length + k := by conv => lhs; rw [hk]; simp
  refine ⟨?_, by omega⟩
  conv => rhs; rw [hk, dval_append, dval_zeros, List.length_replicate, Nat.add_zero]
  rw [show D.length - (trimD D).length = k by omega]
theorem trimD_norm {D : List Nat} (h1 : ∀ d ∈ D, d < 10) (h2 : ∀ d, D.head? = some d → d ≠ 0) : Norm (trimD D) := by
  obtain ⟨k, hk, hl⟩ := trimD_spec D
  refine ⟨fun d hd => h1 d (by rw [hk]; exact List.mem_append_left _ hd), fun d hd => h2 d ?_, hl⟩
  rw [hk]
  cases ht : trimD D with
  | nil => rw [ht] at hd; cases hd
  | cons x l => rw [ht] at hd; simpa using hd

/-- A decimal's value, times 10^K. -/
def scaled (K : Nat) (D : List Nat) (dp : Int) : Nat := dval D * 10 ^ (K + dp - D.length).toNat
theorem scaled_trim {K : Nat} {D : List Nat} {dp : Int} (hK : (D.length : Int) ≤ K + dp) : scaled K (trimD D) dp = scaled K D dp := by
  obtain ⟨h1, h2⟩ := trimD_val D
  unfold scaled
  rw [← h1, Nat.mul_assoc, ← Nat.pow_add]
  congr 2
  omega
theorem Norm.same_scaled {K : Nat} {D E : List Nat} {a b : Int} (hD : Norm D) (hE : Norm E) (hD0 : D ≠ []) (hE0 : E ≠ []) (h1 : (D.length : Int) ≤ K + a) (h2 : (E.length : Int) ≤ K + b) (hv : scaled K D a = scaled K E b) : D = E ∧ a = b := by
  obtain ⟨rfl, h⟩ := hD.same hE hD0 hE0 hv
  exact ⟨rfl, by omega⟩

/-- What the first i digits say, zeros behind the last. -/
def pfx (D : List Nat) (i : Nat) : Nat := dval (D.take i) * 10 ^ (i - D.length)
theorem pfx_zero (D : List Nat) : pfx D 0 = 0 := by simp [pfx, dval]
theorem pfx_all {D : List Nat} {i : Nat} (h : D.length ≤ i) : pfx D i = dval D * 10 ^ (i - D.length) := by rw [pfx, List.take_of_length_le h]
theorem pfx_succ (D : List Nat) (i : Nat) : pfx D (i + 1) = 10 * pfx D i + D.getD i 0 := by
  rcases Nat.lt_or_ge i D.length with h | h
  · rw [pfx, pfx, show i + 1 - D.length = 0 by omega, show i - D.length = 0 by omega, List.take_succ_eq_append_getElem h, dval_snoc]
    simp [h]
  · rw [pfx_all (by omega), pfx_all h, show i + 1 - D.length = i - D.length + 1 by omega, Nat.pow_succ]
    have : D.getD i 0 = 0 := by simp [List.getD, List.getElem?_eq_none h]
    rw [this]
    rw [Nat.mul_comm 10, Nat.mul_assoc]; rfl
theorem getD_dig {D : List Nat} (h : ∀ d ∈ D, d < 10) (i : Nat) : D.getD i 0 < 10 := by
  rcases Nat.lt_or_ge i D.length with hi | hi
  · simp only [List.getD, List.getElem?_eq_getElem hi, Option.getD_some]
    exact h _ (List.getElem_mem hi)
  · simp [List.getD, List.getElem?_eq_none hi]
theorem pfx_bounds {D : List Nat} (h : ∀ d ∈ D, d < 10) (i : Nat) : ∀ t, pfx D i * 10 ^ t ≤ pfx D (i + t) ∧ pfx D (i + t) < (pfx D i + 1) * 10 ^ t
  | 0 => by simp
  | t + 1 => by
    obtain ⟨h1, h2⟩ := pfx_bounds h i t
    have e := pfx_succ D (i + t)
    have hd := getD_dig h (i + t)
    rw [show i + (t + 1) = i + t + 1 by omega, e, Nat.pow_succ]
    constructor
    · rw [← Nat.mul_assoc]; omega
    · rw [← Nat.mul_assoc]; omega
theorem pfx_le {D : List Nat} (h : ∀ d ∈ D, d < 10) {i L : Nat} (hL : i ≤ L) : pfx D i * 10 ^ (L - i) ≤ pfx D L ∧ pfx D L < (pfx D i + 1) * 10 ^ (L - i) := by
  have := pfx_bounds h i (L - i)
  rwa [show i + (L - i) = L by omega] at this
theorem scaled_pfx {K : Nat} {D : List Nat} {dp : Int} {L : Nat} (h1 : D.length ≤ L) (h2 : (L : Int) ≤ K + dp) : scaled K D dp = pfx D L * 10 ^ (K + dp - L).toNat := by
  rw [scaled, pfx_all h1, Nat.mul_assoc, ← Nat.pow_add]
  congr 2
  omega

/-- The first digit at which two decimals differ tells which is less. -/
theorem cmp_digit {K : Nat} {D E : List Nat} {dp : Int} (hD : ∀ d ∈ D, d < 10) (hE : ∀ d ∈ E, d < 10) {i : Nat} (heq : ∀ t, t < i → D.getD t 0 = E.getD t 0) (hlt : D.getD i 0 < E.getD i 0) (h1 : (D.length : Int) ≤ K + dp) (h2 : (E.length : Int) ≤ K + dp) :
    scaled K D dp < scaled K E dp := by
  have hi : i < E.length := by
    rcases Nat.lt_or_ge i E.length with h | h
    · exact h
    · simp [List.getD, List.getElem?_eq_none h] at hlt
  obtain ⟨L, hL⟩ : ∃ L, L = max D.length E.length := ⟨_, rfl⟩
  have hLK : (L : Int) ≤ K + dp := by omega
  rw [scaled_pfx (L := L) (by omega) hLK, scaled_pfx (L := L) (by omega) hLK]
  refine Nat.mul_lt_mul_of_pos_right ?_ (Nat.pow_pos (by decide))
  have hp : ∀ t, t ≤ i → pfx D t = pfx E t := by
    intro t
    induction t with
    | zero => intro _; rw [pfx_zero, pfx_zero]
    | succ t ih => intro ht; rw [pfx_succ, pfx_succ, ih (by omega), heq t (by omega)]
  have e1 := pfx_succ D i; have e2 := pfx_succ E i
  rw [hp i (Nat.le_refl _)] at e1
  have a := (pfx_le hD (i := i + 1) (L := L) (by omega)).2
  have b := (pfx_le hE (i := i + 1) (L := L) (by omega)).1
  have : (pfx D (i + 1) + 1) * 10 ^ (L - (i + 1)) ≤ pfx E (i + 1) * 10 ^ (L - (i + 1)) := Nat.mul_le_mul_right _ (by omega)
  omega
/-- All digits alike: one number. -/
theorem cmp_same {K : Nat} {D E : List Nat} {dp : Int} (heq : ∀ t, D.getD t 0 = E.getD t 0) (h1 : (D.length : Int) ≤ K + dp) (h2 : (E.length : Int) ≤ K + dp) : scaled K D dp = scaled K E dp := by
  obtain ⟨L, hL⟩ : ∃ L, L = max D.length E.length := ⟨_, rfl⟩
  have hLK : (L : Int) ≤ K + dp := by omega
  rw [scaled_pfx (L := L) (by omega) hLK, scaled_pfx (L := L) (by omega) hLK]
  congr 1
  have hp : ∀ t, pfx D t = pfx E t := by
    intro t
    induction t with
    | zero => rw [pfx_zero, pfx_zero]
    | succ t ih => rw [pfx_succ, pfx_succ, ih, heq t]
  exact hp L
/-- The point further to the left: less. -/
theorem cmp_dp {K : Nat} {D E : List Nat} {a b : Int} (hD : ∀ d ∈ D, d < 10) (hE : Norm E) (hE0 : E ≠ []) (hab : a < b) (h1 : (D.length : Int) ≤ K + a) (h2 : (E.length : Int) ≤ K + b) : scaled K D a < scaled K E b := by
  unfold scaled
  have x := dval_lt hD; have y := hE.lo hE0
  have hl : 0 < E.length := List.length_pos_iff.2 hE0
  have p1 : dval D * 10 ^ (K + a - D.length).toNat < 10 ^ D.length * 10 ^ (K + a - D.length).toNat := Nat.mul_lt_mul_of_pos_right x (Nat.pow_pos (by decide))
  have p2 : 10 ^ (E.length - 1) * 10 ^ (K + b - E.length).toNat ≤ dval E * 10 ^ (K + b - E.length).toNat := Nat.mul_le_mul_right _ y
  rw [← Nat.pow_add] at p1 p2
  have p3 : 10 ^ (D.length + (K + a - D.length).toNat) ≤ 10 ^ (E.length - 1 + (K + b - E.length).toNat) := Nat.pow_le_pow_right (by decide) (by omega)
  omega

/-- Division by 2^k: what has come out so far, and what is left. -/
structure Halving (D : List Nat) (k i0 i : Nat) (out : List Nat) (n : Nat) : Prop where
  eq : pfx D i = 10 * dval out * 2 ^ k + n
  lt : n < 10 * 2 ^ k
  dig : ∀ d ∈ out, d < 10
  fst : ∀ d, out.head? = some d → d ≠ 0
  ge : out = [] → 2 ^ k ≤ n
  len : i = i0 + out.length
  dvd : D.length ≤ i → 2 ^ (i - D.length) ∣ n

theorem Halving.step {D : List Nat} {k i0 i n : Nat} {out : List Nat} (hD : ∀ d ∈ D, d < 10) (h : Halving D k i0 i out n) : Halving D k i0 (i + 1) (out ++ [n / 2 ^ k]) (n % 2 ^ k * 10 + D.getD i 0) := by
  have hp : 0 < 2 ^ k := Nat.pow_pos (by decide)
  have hm := Nat.mod_lt n hp
  have hdm := Nat.div_add_mod n (2 ^ k)
  have hd := getD_dig hD i
  have hq : n / 2 ^ k < 10 := (Nat.div_lt_iff_lt_mul hp).2 h.lt
  refine ⟨?_, by omega, fun d hd' => ?_, fun d hd' => ?_, fun e => by simp at e, by rw [h.len]; simp; omega, fun hl => ?_⟩
  · rw [pfx_succ, h.eq, dval_snoc]
    have : 10 * (10 * dval out + n / 2 ^ k) * 2 ^ k = 10 * (10 * dval out * 2 ^ k) + 10 * (2 ^ k * (n / 2 ^ k)) := by
      rw [Nat.mul_assoc 10, Nat.add_mul, Nat.mul_add, Nat.mul_comm (n / 2 ^ k)]
    rw [this]; omega
  · rcases List.mem_append.1 hd' with hd' | hd'
    · exact h.dig d hd'
    · obtain rfl := List.mem_singleton.1 hd'; exact hq
  · cases hout : out with
    | nil =>
      rw [hout] at hd'
      simp only [List.nil_append, List.head?_cons, Option.some.injEq] at hd'
      subst hd'
      have := h.ge hout
      have := (Nat.le_div_iff_mul_le hp).2 (show 1 * 2 ^ k ≤ n by omega)
      omega
    | cons x l =>
      rw [hout] at hd'
      simp only [List.cons_append, List.head?_cons, Option.some.injEq] at hd'
      subst hd'
      exact h.fst x (by rw [hout]; rfl)
  · rcases Nat.lt_or_ge i D.length with hlt | hge
    · have : i + 1 - D.length = 0 := by omega
      rw [this]; simp
    · have hz : D.getD i 0 = 0 := by simp [List.getD, List.getElem?_eq_none hge]
      rw [hz, Nat.add_zero, show i + 1 - D.length = i - D.length + 1 by omega, Nat.pow_succ]
      have hv := h.dvd hge
      rcases Nat.lt_or_ge k (i - D.length) with hk | hk
      · have h0 : n % 2 ^ k = 0 := Nat.mod_eq_zero_of_dvd (Nat.dvd_trans (Nat.pow_dvd_pow 2 (by omega)) hv)
        rw [h0, Nat.zero_mul]; exact Nat.dvd_zero _
      · have : 2 ^ (i - D.length) ∣ n % 2 ^ k := (Nat.dvd_mod_iff (Nat.pow_dvd_pow 2 hk)).2 hv
        exact Nat.mul_dvd_mul this (by decide)

/-- No more rounds than this. -/
theorem Halving.bound {D : List Nat} {k i0 i n : Nat} {out : List Nat} (h : Halving D k i0 i out n) (hn : n ≠ 0 ∨ i < D.length) : i < D.length + k + 4 := by
  rcases Nat.lt_or_ge i D.length with hlt | hge
  · omega
  · have hn' : n ≠ 0 := hn.resolve_right (by omega)
    have h1 := Nat.le_of_dvd (Nat.pos_of_ne_zero hn') (h.dvd hge)
    have h2 : n < 2 ^ (k + 4) := by rw [Nat.pow_add]; have := h.lt; omega
    have := (Nat.pow_lt_pow_iff_right (a := 2) (by decide)).1 (Nat.lt_of_le_of_lt h1 h2)
    omega

/-- All has come out: the quotient. -/
theorem Halving.done {D : List Nat} {k i0 i : Nat} {out : List Nat} (h : Halving D k i0 i out 0) (hi : D.length ≤ i) {K : Nat} {dp : Int} (hK : (i : Int) ≤ K + dp) :
    scaled K (trimD out) (dp - (i0 - 1)) * 2 ^ k = scaled K D dp ∧ Norm (trimD out) := by
  refine ⟨?_, trimD_norm h.dig h.fst⟩
  have hl := h.len
  rw [scaled_trim (by omega), scaled_pfx hi hK, h.eq]
  unfold scaled
  have e : (K + (dp - (i0 - 1)) - (out.length : Int)).toNat = (K + dp - i).toNat + 1 := by omega
  rw [e, Nat.pow_succ, Nat.add_zero]
  have : dval out * (10 ^ (K + dp - i).toNat * 10) * 2 ^ k = 10 * dval out * 2 ^ k * 10 ^ (K + dp - i).toNat := by
    rw [Nat.mul_comm (10 ^ _) 10, ← Nat.mul_assoc, Nat.mul_comm (dval out) 10, Nat.mul_assoc, Nat.mul_assoc, Nat.mul_comm (10 ^ _) (2 ^ k)]
    simp only [Nat.mul_assoc]
  exact this

/-- The digits that make the quotient's first one. -/
structure Gathering (D : List Nat) (k i n : Nat) : Prop where
  eq : n = pfx D i
  lt : n < 10 * 2 ^ k
  low : ∀ t, t < i → pfx D t < 2 ^ k
theorem Gathering.zero (D : List Nat) (k : Nat) : Gathering D k 0 0 := ⟨(pfx_zero D).symm, by have := Nat.pow_pos (a := 2) (n := k) (by decide); omega, fun t h => by omega⟩
theorem Gathering.step {D : List Nat} {k i n : Nat} (hD : ∀ d ∈ D, d < 10) (h : Gathering D k i n) (hn : n < 2 ^ k) : Gathering D k (i + 1) (n * 10 + D.getD i 0) := by
  have hd := getD_dig hD i
  refine ⟨by rw [pfx_succ, ← h.eq, Nat.mul_comm], by omega, fun t ht => ?_⟩
  rcases Nat.lt_or_ge t i with h' | h'
  · exact h.low t h'
  · obtain rfl : t = i := by omega
    rw [← h.eq]; exact hn
theorem Gathering.halving {D : List Nat} {k i n : Nat} (h : Gathering D k i n) (hn : 2 ^ k ≤ n) : Halving D k i i [] n := by
  refine ⟨by rw [← h.eq, dval_nil]; omega, h.lt, fun d hd => (by cases hd), fun d hd => (by cases hd), fun _ => hn, rfl, fun hl => ?_⟩
  rw [h.eq, pfx_all hl]
  have : (10 : Nat) ^ (i - D.length) = 2 ^ (i - D.length) * 5 ^ (i - D.length) := by rw [← Nat.mul_pow]
  rw [this]
  exact ⟨dval D * 5 ^ (i - D.length), by rw [← Nat.mul_assoc, Nat.mul_comm (dval D), Nat.mul_assoc]⟩
/-- It grows from round to round. -/
theorem Gathering.grow {D : List Nat} {k i n : Nat} (hf : ∀ d, D.head? = some d → d ≠ 0) (hne : D ≠ []) (h : Gathering D k i n) : n < n * 10 + D.getD i 0 := by
  rcases Nat.eq_zero_or_pos n with h0 | h0
  · subst h0
    have hi : i = 0 := by
      rcases Nat.eq_zero_or_pos i with hi | hi
      · exact hi
      · exfalso
        have e := h.eq
        cases D with
        | nil => exact hne rfl
        | cons d l =>
          have hd : d ≠ 0 := hf d rfl
          have h1 : 1 ≤ pfx (d :: l) 1 := by simp [pfx, dval]; omega
          have h2 : ∀ t, 1 ≤ t → 1 ≤ pfx (d :: l) t := by
            intro t ht
            induction t with
            | zero => omega
            | succ t ih =>
              rcases Nat.eq_zero_or_pos t with h3 | h3
              · subst h3; exact h1
              · rw [pfx_succ]; have := ih h3; omega
          have := h2 i hi
          omega
    subst hi
    cases D with
    | nil => exact absurd rfl hne
    | cons d l => have := hf d rfl; simp; omega
  · omega
end Go.Proofs.YtbdciilkapgfjaaGreatDoor

namespace Go.Proofs.YtbdciilkapgfjaaGreatDoor

/-- The decimal digits of a number, the first one first; of 0 one. -/
def digs (n : Nat) : List Nat := if n < 10 then [n] else digs (n / 10) ++ [n % 10]
theorem digs_lt {n : Nat} (h : n < 10) : digs n = [n] := by rw [digs, if_pos h]
theorem digs_ge {n : Nat} (h : ¬ n < 10) : digs n = digs (n / 10) ++ [n % 10] := by rw [digs, if_neg h]
theorem digs_ne (n : Nat) : digs n ≠ [] := by
  by_cases h : n < 10
  · rw [digs_lt h]; simp
  · rw [digs_ge h]; simp
theorem digs_val (n : Nat) : dval (digs n) = n := by
  induction n using Nat.strongRecOn with
  | _ n ih =>
    by_cases h : n < 10
    · rw [digs_lt h]; simp [dval]
    · rw [digs_ge h, dval_snoc, ih (n / 10) (by omega)]; omega
theorem digs_dig (n : Nat) : ∀ d ∈ digs n, d < 10 := by
  induction n using Nat.strongRecOn with
  | _ n ih =>
    by_cases h : n < 10
    · rw [digs_lt h]; simpa using h
    · rw [digs_ge h]
      intro d hd
      rcases List.mem_append.1 hd with hd | hd
      · exact ih (n / 10) (by omega) d hd
      · obtain rfl := List.mem_singleton.1 hd; omega
theorem head_app {l r : List Nat} (h : l ≠ []) : (l ++ r).head? = l.head? := by cases l with
  | nil => exact absurd rfl h
  | cons a l => rfl
theorem digs_fst {n : Nat} (h0 : n ≠ 0) : ∀ d, (digs n).head? = some d → d ≠ 0 := by
  induction n using Nat.strongRecOn with
  | _ n ih =>
    intro d hd
    by_cases h : n < 10
    · rw [digs_lt h] at hd
      simp only [List.head?_cons, Option.some.injEq] at hd
      omega
    · rw [digs_ge h, head_app (digs_ne _)] at hd
      exact ih (n / 10) (by omega) (by omega) d hd
theorem digs_len {n k : Nat} (hk : 0 < k) (h : n < 10 ^ k) : (digs n).length ≤ k := by
  induction k generalizing n with
  | zero => omega
  | succ k ih =>
    by_cases h1 : n < 10
    · rw [digs_lt h1]; simp
    · rw [digs_ge h1, List.length_append]
      have hk : 0 < k := by
        rcases Nat.eq_zero_or_pos k with h0 | h0
        · subst h0; simp at h; omega
        · exact h0
      have := ih hk (n := n / 10) (by rw [Nat.pow_succ] at h; omega)
      simp; omega
/-- The digits of ten times a number and one more digit. -/
theorem digs_snoc {n d : Nat} (hn : n ≠ 0) (hd : d < 10) : digs (10 * n + d) = digs n ++ [d] := by
  rw [digs_ge (by omega)]
  congr 2 <;> omega
theorem digs_norm {n : Nat} (h : n % 10 ≠ 0) : Norm (digs n) := by
  refine ⟨digs_dig n, digs_fst (by intro e; subst e; simp at h), fun d hd => ?_⟩
  by_cases h1 : n < 10
  · rw [digs_lt h1] at hd
    simp only [List.getLast?_singleton, Option.some.injEq] at hd
    omega
  · rw [digs_ge h1] at hd
    simp only [List.getLast?_append, List.getLast?_singleton, Option.some_or, Option.some.injEq] at hd
    omega
end Go.Proofs.YtbdciilkapgfjaaGreatDoor

namespace Go.Proofs.YtbdciilkapgfjaaGreatDoor

theorem dval_nines (m : Nat) : dval (List.replicate m 9) + 1 = 10 ^ m := by
  induction m with
  | zero => rfl
  | succ m ih => rw [List.replicate_succ', dval_snoc, Nat.pow_succ]; omega

/-- One more in the last of the first n digits that is no 9. -/
theorem up_val {D : List Nat} {i n : Nat} (hin : i < n) (hn : n ≤ D.length) (h9 : ∀ j, i < j → j < n → D.getD j 0 = 9) :
    dval (D.take i ++ [D.getD i 0 + 1]) * 10 ^ (n - (i + 1)) = dval (D.take n) + 1 := by
  have e : D.take n = D.take i ++ [D.getD i 0] ++ List.replicate (n - (i + 1)) 9 := by
    apply List.ext_getElem
    · simp; omega
    · intro t h1 h2
      have ht : t < n := by simp at h1; omega
      have htD : t < D.length := by omega
      rw [List.getElem_take]
      rcases Nat.lt_trichotomy t i with h | h | h
      · rw [List.getElem_append_left (by simp; omega), List.getElem_append_left (by simp; omega), List.getElem_take]
      · subst h
        rw [List.getElem_append_left (by simp; omega), List.getElem_append_right (by simp; omega)]
        simp [htD]
      · rw [List.getElem_append_right (by simp; omega), List.getElem_replicate]
        have := h9 t h ht
        simpa [htD] using this
  have h2 := dval_nines (n - (i + 1))
  have a2 : dval (D.take n) = (10 * dval (D.take i) + D.getD i 0) * 10 ^ (n - (i + 1)) + dval (List.replicate (n - (i + 1)) 9) := by
    rw [e, dval_append (D.take i ++ [D.getD i 0]), dval_snoc, List.length_replicate]
  rw [a2, dval_snoc, Nat.add_assoc _ _ 1, h2, ← Nat.add_one_mul]
  rfl
theorem up_nines {D : List Nat} {n : Nat} (hn : n ≤ D.length) (h9 : ∀ j, j < n → D.getD j 0 = 9) : dval (D.take n) + 1 = 10 ^ n := by
  have e : D.take n = List.replicate n 9 := by
    apply List.ext_getElem
    · simp; omega
    · intro t h1 h2
      have ht : t < n := by simp at h1; omega
      have htD : t < D.length := by omega
      rw [List.getElem_take, List.getElem_replicate]
      have := h9 t ht
      simpa [htD] using this
  rw [e, dval_nines]

/-- What stands above the first n digits of a decimal, as up has it. -/
structure UpOK (D : List Nat) (dp : Int) (n : Nat) (U : List Nat) (up : Int) : Prop where
  norm : Norm U
  ne : U ≠ []
  len : U.length ≤ D.length + 1
  le : ∀ K : Nat, (n : Int) ≤ K + dp → (U.length : Int) ≤ K + up
  eq : ∀ K : Nat, (n : Int) ≤ K + dp → scaled K U up = (dval (D.take n) + 1) * 10 ^ (K + dp - n).toNat
theorem UpOK.of_digit {D : List Nat} {dp : Int} {i n : Nat} (hD : Norm D) (hin : i < n) (hn : n ≤ D.length) (h9 : ∀ j, i < j → j < n → D.getD j 0 = 9) (hi : D.getD i 0 < 9) : UpOK D dp n (D.take i ++ [D.getD i 0 + 1]) dp := by
  refine ⟨⟨fun d hd => ?_, fun d hd => ?_, fun d hd => ?_⟩, by simp, by rw [List.length_append, List.length_take]; simp only [List.length_singleton]; omega, fun K hK => by rw [List.length_append, List.length_take]; simp only [List.length_singleton]; omega, fun K hK => ?_⟩
  · rcases List.mem_append.1 hd with hd | hd
    · exact hD.dig d (List.mem_of_mem_take hd)
    · obtain rfl := List.mem_singleton.1 hd; omega
  · by_cases h0 : i = 0
    · subst h0
      simp only [List.take_zero, List.nil_append, List.head?_cons, Option.some.injEq] at hd
      omega
    · have hne : D.take i ≠ [] := by
        intro e
        have := congrArg List.length e
        rw [List.length_take, List.length_nil] at this
        omega
      rw [head_app hne] at hd
      refine hD.fst d ?_
      rw [List.head?_take] at hd
      simpa [h0] using hd
  · simp only [List.getLast?_append, List.getLast?_singleton, Option.some_or, Option.some.injEq] at hd
    omega
  · unfold scaled
    rw [← up_val hin hn h9, Nat.mul_assoc, ← Nat.pow_add]
    congr 2
    simp
    omega
theorem UpOK.of_nines {D : List Nat} {dp : Int} {n : Nat} (hn : n ≤ D.length) (h9 : ∀ j, j < n → D.getD j 0 = 9) : UpOK D dp n [1] (dp + 1) := by
  refine ⟨⟨fun d hd => ?_, fun d hd => ?_, fun d hd => ?_⟩, by simp, by simp, fun K hK => by simp; omega, fun K hK => ?_⟩
  · simp at hd; omega
  · simp at hd; omega
  · simp at hd; omega
  · unfold scaled
    rw [up_nines hn h9, ← Nat.pow_add]
    simp only [dval, List.foldl_cons, List.foldl_nil, List.length_singleton, Nat.mul_zero, Nat.zero_add, Nat.one_mul]
    congr 1
    omega
/-- The first n digits of a decimal, as down has them. -/
theorem down_scaled {D : List Nat} {dp dp' : Int} {n K : Nat} (hn : n ≤ D.length) (hdp : trimD (D.take n) ≠ [] → dp' = dp) (hK : (n : Int) ≤ K + dp) : scaled K (trimD (D.take n)) dp' = dval (D.take n) * 10 ^ (K + dp - n).toNat := by
  have hl : (D.take n).length = n := by simp; omega
  by_cases h0 : trimD (D.take n) = []
  · obtain ⟨h1, h2⟩ := trimD_val (D.take n)
    rw [h0] at h1
    rw [h0, ← h1]
    simp [scaled, dval]
  · rw [hdp h0, scaled_trim (by rw [hl]; exact hK)]
    unfold scaled
    rw [hl]

/-- Half of an odd number has the digits of five times it. -/
theorem half_digits {k M s : Nat} {K : Nat} {D' : List Nat} {dp' : Int} (hK : 40 ≤ K) (hM : M * 2 = (2 * k + 1) * 2 ^ s) (hD : Norm D') (hle : (D'.length : Int) ≤ K + dp') (hv : scaled K D' dp' * 2 ^ s = M * 10 ^ K) (hk : k < 10 ^ 20) :
    D' = digs (10 * k + 5) ∧ dp' = (digs (10 * k + 5)).length - 1 := by
  have hv2 : scaled K D' dp' = (10 * k + 5) * 10 ^ (K - 1) := by
    have h10 : 10 ^ K = 10 * 10 ^ (K - 1) := by rw [← Nat.pow_succ', show (K - 1).succ = K by omega]
    have : scaled K D' dp' * 2 ^ s * 2 = (10 * k + 5) * 10 ^ (K - 1) * 2 ^ s * 2 := by
      rw [hv, h10, Nat.mul_right_comm M, hM, show (10 * k + 5) = (2 * k + 1) * 5 by omega]
      generalize 2 * k + 1 = c
      generalize 2 ^ s = A
      generalize 10 ^ (K - 1) = B
      have e1 : c * A * (10 * B) = 10 * (c * A * B) := Nat.mul_left_comm _ _ _
      have e2 : c * 5 * B * A * 2 = 5 * (c * A * B) * 2 := by rw [Nat.mul_comm c 5, Nat.mul_assoc 5, Nat.mul_assoc 5, Nat.mul_right_comm c]
      omega
    exact Nat.eq_of_mul_eq_mul_right (Nat.pow_pos (by decide : 0 < 2)) (Nat.eq_of_mul_eq_mul_right (by decide) this)
  have hne : D' ≠ [] := by
    intro e
    rw [e] at hv2
    simp only [scaled, dval, List.foldl_nil, Nat.zero_mul] at hv2
    have : 0 < (10 * k + 5) * 10 ^ (K - 1) := Nat.mul_pos (by omega) (Nat.pow_pos (by decide))
    omega
  have hlen : (digs (10 * k + 5)).length ≤ 22 := digs_len (by decide) (by omega)
  refine Norm.same_scaled (K := K) hD (digs_norm (by omega)) hne (digs_ne _) hle (by omega) ?_
  rw [hv2]
  unfold scaled
  rw [digs_val]
  congr 2
  omega
/-- The first digits of half an odd number, and one more, lie more than half off. -/
theorem short_between {k n : Nat} (hn : n < (digs (10 * k + 5)).length) : dval ((digs (10 * k + 5)).take n) * 10 ^ ((digs (10 * k + 5)).length - 1 - n) ≤ k ∧ k + 1 ≤ (dval ((digs (10 * k + 5)).take n) + 1) * 10 ^ ((digs (10 * k + 5)).length - 1 - n) := by
  have h := pfx_le (digs_dig (10 * k + 5)) (i := n) (L := (digs (10 * k + 5)).length) (by omega)
  rw [pfx_all (Nat.le_refl _), digs_val, Nat.sub_self, Nat.pow_zero, Nat.mul_one, pfx, show n - (digs (10 * k + 5)).length = 0 by omega, Nat.pow_zero, Nat.mul_one] at h
  have e : 10 ^ ((digs (10 * k + 5)).length - n) = 10 * 10 ^ ((digs (10 * k + 5)).length - 1 - n) := by rw [← Nat.pow_succ', show ((digs (10 * k + 5)).length - 1 - n).succ = (digs (10 * k + 5)).length - n by omega]
  obtain ⟨h1, h2⟩ := h
  rw [e, Nat.mul_left_comm] at h1 h2
  omega

/-- The edge above is nearer than any number of fewer digits. -/
theorem edge_high {k s M K sH sU : Nat} (hM : M * 2 = (2 * k + 1) * 2 ^ s) (hs : 1 ≤ s) (hH : sH * 2 ^ (s + 1) = (2 * M + 1) * 10 ^ K) (hU : (k + 1) * 10 ^ K ≤ sU) : sH < sU := by
  rcases Nat.lt_or_ge sH sU with h | h
  · exact h
  · exfalso
    have h1 : (k + 1) * 10 ^ K * 2 ^ (s + 1) ≤ (2 * M + 1) * 10 ^ K := by rw [← hH]; exact Nat.mul_le_mul_right _ (Nat.le_trans hU h)
    rw [Nat.mul_right_comm] at h1
    have h2 := Nat.le_of_mul_le_mul_right h1 (Nat.pow_pos (by decide))
    have h3 : 2 ^ 1 ≤ 2 ^ s := Nat.pow_le_pow_right (by decide) hs
    have e : (k + 1) * 2 ^ (s + 1) = (2 * k + 1) * 2 ^ s + 2 ^ s := by
      rw [Nat.pow_succ, Nat.mul_comm (2 ^ s) 2, ← Nat.mul_assoc, ← Nat.add_one_mul]
      congr 1; omega
    omega
theorem edge_low {k s M K sL sd : Nat} (hM : M * 2 = (2 * k + 1) * 2 ^ s) (hs : 1 ≤ s) (hL : sL * 2 ^ (s + 1) = (2 * M - 1) * 10 ^ K) (hd : sd ≤ k * 10 ^ K) : sd < sL := by
  rcases Nat.lt_or_ge sd sL with h | h
  · exact h
  · exfalso
    have h1 : (2 * M - 1) * 10 ^ K ≤ k * 10 ^ K * 2 ^ (s + 1) := by rw [← hL]; exact Nat.mul_le_mul_right _ (Nat.le_trans h hd)
    rw [Nat.mul_right_comm] at h1
    have h2 := Nat.le_of_mul_le_mul_right h1 (Nat.pow_pos (by decide))
    have h3 : 2 ^ 1 ≤ 2 ^ s := Nat.pow_le_pow_right (by decide) hs
    have e : k * 2 ^ (s + 1) + 2 ^ s = (2 * k + 1) * 2 ^ s := by
      rw [Nat.pow_succ, Nat.mul_comm (2 ^ s) 2, ← Nat.mul_assoc, ← Nat.add_one_mul]
      congr 1; omega
    omega
theorem edge_low2 {k s M K sL sd : Nat} (hM : M * 2 = (2 * k + 1) * 2 ^ s) (hs : 1 ≤ s) (hL : sL * 2 ^ (s + 2) = (4 * M - 1) * 10 ^ K) (hd : sd ≤ k * 10 ^ K) : sd < sL := by
  rcases Nat.lt_or_ge sd sL with h | h
  · exact h
  · exfalso
    have h1 : (4 * M - 1) * 10 ^ K ≤ k * 10 ^ K * 2 ^ (s + 2) := by rw [← hL]; exact Nat.mul_le_mul_right _ (Nat.le_trans h hd)
    rw [Nat.mul_right_comm] at h1
    have h2 := Nat.le_of_mul_le_mul_right h1 (Nat.pow_pos (by decide))
    have h3 : 2 ^ 1 ≤ 2 ^ s := Nat.pow_le_pow_right (by decide) hs
    have e : k * 2 ^ (s + 2) + 2 * 2 ^ s = 2 * ((2 * k + 1) * 2 ^ s) := by
      rw [show s + 2 = s + 1 + 1 by omega, Nat.pow_succ, Nat.pow_succ, ← Nat.mul_assoc 2, Nat.mul_comm (2 ^ s * 2) 2, Nat.mul_comm (2 ^ s) 2, ← Nat.mul_assoc, ← Nat.mul_assoc, ← Nat.add_mul]
      congr 1; omega
    omega
end Go.Proofs.YtbdciilkapgfjaaGreatDoor

namespace Go.Proofs.YtbdciilkapgfjaaGreatDoor

/-- What cmp says of two decimals, the first of which is the greater. -/
def CmpOK (D : List Nat) (dp : Int) (E : List Nat) (ep : Int) (i : Int) : Prop := ∀ K : Nat, (D.length : Int) ≤ K + dp → (E.length : Int) ≤ K + ep → scaled K E ep < scaled K D dp → 1 ≤ i

/-- A decimal made of a whole number. -/
theorem digs_scaled (v K : Nat) : scaled K (trimD (digs v)) ((digs v).length : Int) = v * 10 ^ K := by
  rw [scaled_trim (by omega)]
  unfold scaled
  rw [digs_val]
  congr 2
  omega

/-- Fewer digits do not do: below. -/
theorem short_down {k s M n K sL : Nat} {dp' : Int} (hM : M * 2 = (2 * k + 1) * 2 ^ s) (hs : 1 ≤ s) (hn : n < (digs (10 * k + 5)).length) (hdp : trimD ((digs (10 * k + 5)).take n) ≠ [] → dp' = ((digs (10 * k + 5)).length - 1 : Int))
    (hL : sL * 2 ^ (s + 1) = (2 * M - 1) * 10 ^ K ∨ sL * 2 ^ (s + 2) = (4 * M - 1) * 10 ^ K) : scaled K (trimD ((digs (10 * k + 5)).take n)) dp' < sL := by
  have h := down_scaled (D := digs (10 * k + 5)) (K := K) (Nat.le_of_lt hn) hdp (by omega)
  have hb := (short_between hn).1
  have e : ((K : Int) + ((digs (10 * k + 5)).length - 1) - n).toNat = K + ((digs (10 * k + 5)).length - 1 - n) := by omega
  have hd : scaled K (trimD ((digs (10 * k + 5)).take n)) dp' ≤ k * 10 ^ K := by
    rw [h, e, Nat.pow_add, Nat.mul_comm (10 ^ K), ← Nat.mul_assoc]
    exact Nat.mul_le_mul_right _ hb
  rcases hL with hL | hL
  · exact edge_low hM hs hL hd
  · exact edge_low2 hM hs hL hd
/-- Fewer digits do not do: above. -/
theorem short_up {k s M n K sH : Nat} {U : List Nat} {up : Int} (hM : M * 2 = (2 * k + 1) * 2 ^ s) (hs : 1 ≤ s) (hn : n < (digs (10 * k + 5)).length) (hU : UpOK (digs (10 * k + 5)) ((digs (10 * k + 5)).length - 1 : Int) n U up)
    (hH : sH * 2 ^ (s + 1) = (2 * M + 1) * 10 ^ K) : sH < scaled K U up := by
  have h := hU.eq K (by omega)
  have hb := (short_between hn).2
  have e : ((K : Int) + ((digs (10 * k + 5)).length - 1) - n).toNat = K + ((digs (10 * k + 5)).length - 1 - n) := by omega
  refine edge_high hM hs hH ?_
  rw [h, e, Nat.pow_add, Nat.mul_comm (10 ^ K), ← Nat.mul_assoc]
  exact Nat.mul_le_mul_right _ hb
end Go.Proofs.YtbdciilkapgfjaaGreatDoor
