/-
  THE PLAIN LAW under 'LawS1297AModel' and 'LawS1297AMonotone': no Go in sight.
-/
namespace Go.Proofs.Ybulkzvk.Plain

/-- The search: the first of 'r' numbers from 'k' on at which 'p' says yes; 'k + r' where none does. -/
def search (p : Nat → Bool) : Nat → Nat → Nat
  | 0, k => k
  | r + 1, k => if p k then k else search p r (k + 1)

theorem search_le (p : Nat → Bool) : ∀ r k, search p r k ≤ k + r
  | 0, k => by simp [search]
  | r + 1, k => by
    have := search_le p r (k + 1)
    simp only [search]
    split <;> omega

theorem search_ge (p : Nat → Bool) : ∀ r k, k ≤ search p r k
  | 0, k => by simp [search]
  | r + 1, k => by
    have := search_ge p r (k + 1)
    simp only [search]
    split <;> omega

theorem search_mono (p q : Nat → Bool) (h : ∀ j, q j = true → p j = true) : ∀ r k, search p r k ≤ search q r k
  | 0, k => by simp [search]
  | r + 1, k => by
    have h1 := search_mono p q h r (k + 1)
    have h2 := search_ge q r (k + 1)
    simp only [search]
    by_cases hq : q k = true
    · simp [h k hq, hq]
    · by_cases hp : p k = true
      · simp [hp, hq]; omega
      · simp [hp, hq]; exact h1

/-- The search stands at 'k': a yes ends it, a no moves it on. -/
theorem search_yes (p : Nat → Bool) (r k : Nat) (hr : 0 < r) (h : p k = true) : search p r k = k := by
  obtain ⟨r, rfl⟩ : ∃ s, r = s + 1 := ⟨r - 1, by omega⟩
  simp [search, h]
theorem search_no (p : Nat → Bool) (r k : Nat) (hr : 0 < r) (h : p k = false) : search p r k = search p (r - 1) (k + 1) := by
  obtain ⟨r, rfl⟩ : ∃ s, r = s + 1 := ⟨r - 1, by omega⟩
  simp [search, h]

/-- Does level k's turn, counted from 'now' rounded down to a multiple of its slot width, hold 'due'? -/
def hit (n now due k : Nat) : Bool := decide (due - now + now % n ^ k < n ^ k * n)

/-- What 'level' and its restatement answer. -/
def lev (n L now due : Nat) : Nat := if due ≤ now then 0 else search (hit n now due) L 0

theorem lev_le (n L now due : Nat) : lev n L now due ≤ L := by
  unfold lev
  split
  · omega
  · have := search_le (hit n now due) L 0
    omega

theorem hit_mono (n now a b k : Nat) (h : a ≤ b) (hb : hit n now b k = true) : hit n now a k = true := by
  simp only [hit, decide_eq_true_eq] at *
  omega

theorem lev_mono (n L now a b : Nat) (h : a ≤ b) : lev n L now a ≤ lev n L now b := by
  unfold lev
  by_cases ha : a ≤ now
  · rw [if_pos ha]; exact Nat.zero_le _
  · rw [if_neg ha, if_neg (by omega)]
    exact search_mono _ _ (fun j hj => hit_mono n now a b j h hj) _ _

/-- The quotient by the reciprocal: right, or one too few. -/
theorem recip_mul (d rc x : Nat) (hd : 1 ≤ d) (hrc : rc = 18446744073709551615 / d) (hx : x ≤ 18446744073709551615) :
    x * rc / 18446744073709551616 * d ≤ x ∧ x < (x * rc / 18446744073709551616 + 2) * d := by
  have h1 : rc * d ≤ 18446744073709551615 := by rw [hrc]; exact Nat.div_mul_le_self _ _
  have h2 : 18446744073709551615 < (rc + 1) * d := by
    rw [hrc, Nat.mul_comm]; exact Nat.lt_mul_div_succ _ hd
  have e1 := Nat.div_add_mod (x * rc) 18446744073709551616
  have e2 := Nat.mod_lt (x * rc) (show 18446744073709551616 > 0 by omega)
  generalize x * rc / 18446744073709551616 = q at *
  generalize x * rc % 18446744073709551616 = s at *
  constructor
  · have h3 : (18446744073709551616 * q + s) * d ≤ x * 18446744073709551615 := by
      rw [e1, Nat.mul_assoc]; exact Nat.mul_le_mul_left _ h1
    rw [Nat.add_mul, Nat.mul_assoc] at h3
    generalize q * d = a at *
    have : 0 ≤ s * d := Nat.zero_le _
    omega
  · have h3 : x * 18446744073709551616 ≤ x * ((rc + 1) * d) := Nat.mul_le_mul_left _ (by omega)
    have h4 : x * ((rc + 1) * d) = (18446744073709551616 * q + s) * d + x * d := by
      rw [e1, Nat.add_mul, Nat.mul_add, Nat.mul_assoc, Nat.one_mul]
    rw [h4, ← Nat.add_mul] at h3
    have h5 : (18446744073709551616 * q + s + x) * d < (18446744073709551616 * (q + 2)) * d := Nat.mul_lt_mul_of_pos_right (by omega) hd
    rw [Nat.mul_assoc] at h5
    generalize (q + 2) * d = b at *
    omega

theorem div_of (x d q : Nat) (_hd : 1 ≤ d) (h1 : q * d ≤ x) (h2 : x < (q + 1) * d) : x / d = q ∧ x % d = x - q * d := by
  have e : x / d = q := Nat.div_eq_of_lt_le (by omega) (by omega)
  refine ⟨e, ?_⟩
  have := Nat.div_add_mod x d
  rw [e, Nat.mul_comm] at this
  omega

/-! ### The widths -/
/-- The widths are powers: 2 ^ k at least, so that there are few. -/
theorem pow_ge (n k : Nat) (hn : 2 ≤ n) : k < n ^ k := by
  induction k with
  | zero => simp
  | succ k ih =>
    rw [Nat.pow_succ]
    have : n ^ k * 2 ≤ n ^ k * n := Nat.mul_le_mul_left _ hn
    omega
theorem pow_ge2 (n k : Nat) (hn : 2 ≤ n) : 2 ^ k ≤ n ^ k := Nat.pow_le_pow_left hn k
theorem few (n k : Nat) (hn : 2 ≤ n) (h : n ^ k ≤ 18446744073709551615) : k ≤ 63 := by
  rcases Nat.lt_or_ge k 64 with hk | hk
  · omega
  · exfalso
    have h1 := pow_ge2 n k hn
    have h2 : 2 ^ 64 ≤ 2 ^ k := Nat.pow_le_pow_right (by omega) hk
    omega
theorem le_div (a n : Nat) (hn : 2 ≤ n) : a ≤ 18446744073709551615 / n ↔ a * n ≤ 18446744073709551615 := Nat.le_div_iff_mul_le (by omega)
theorem pow_pos1 (n k : Nat) (hn : 2 ≤ n) : 1 ≤ n ^ k := Nat.pow_pos (by omega)
theorem pow_mono1 (n j L : Nat) (hn : 2 ≤ n) (h : j < L) : n ^ j * n ≤ n ^ L := by
  rw [← Nat.pow_succ]; exact Nat.pow_le_pow_right (by omega) h

/-- The cells of the widths: each level's width and its reciprocal. -/
def wid (n : Nat) : Nat → List (Nat × Nat)
  | 0 => []
  | k + 1 => wid n k ++ [(n ^ k, 18446744073709551615 / n ^ k)]

end Go.Proofs.Ybulkzvk.Plain
