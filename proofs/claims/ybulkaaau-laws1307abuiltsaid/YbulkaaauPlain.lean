/-
  THE PLAIN LAW under 'LawS1307AModel' and 'LawS1307ABuilt': no Go in sight.
-/
namespace Go.Proofs.Ybulkaaau.Plain

/-- The byte at k; 0 (no digit) behind the end. -/
def byteAt (s : ByteArray) (k : Nat) : Nat := if h : k < s.size then s[k].toNat else 0
theorem byteAt_in {s : ByteArray} {k : Nat} (h : k < s.size) : byteAt s k = s[k].toNat := by simp [byteAt, h]
theorem byteAt_out {s : ByteArray} {k : Nat} (h : ¬ k < s.size) : byteAt s k = 0 := by simp [byteAt, h]
theorem byteAt_le (s : ByteArray) (k : Nat) : byteAt s k ≤ 255 := by
  unfold byteAt
  split
  · rename_i h; have := s[k].toNat_lt; omega
  · omega

def dg (c : Nat) : Bool := decide (48 ≤ c ∧ c ≤ 57)
theorem dg_yes {c : Nat} (h1 : 48 ≤ c) (h2 : c ≤ 57) : dg c = true := by simp [dg, h1, h2]
theorem dg_no {c : Nat} (h : ¬ (48 ≤ c ∧ c ≤ 57)) : dg c = false := by simp [dg]; omega
theorem dg_iff {c : Nat} : dg c = true ↔ 48 ≤ c ∧ c ≤ 57 := by simp [dg]

/-- One digit more, with saturation at the greatest uint64. -/
def sat (v d : Nat) : Nat := if (18446744073709551615 - d) / 10 < v then 18446744073709551615 else v * 10 + d

theorem sat_over {v d : Nat} (h : (18446744073709551615 - d) / 10 < v) : sat v d = 18446744073709551615 := by simp [sat, h]
theorem sat_plain {v d : Nat} (h : ¬ (18446744073709551615 - d) / 10 < v) : sat v d = v * 10 + d := by simp [sat, h]
theorem sat_small {v d : Nat} (h : v * 10 + d ≤ 18446744073709551615) : sat v d = v * 10 + d := sat_plain (by omega)
theorem sat_top (d : Nat) : sat 18446744073709551615 d = 18446744073709551615 := sat_over (by omega)
theorem sat_le {v d : Nat} (hd : d ≤ 9) : sat v d ≤ 18446744073709551615 := by
  unfold sat
  split <;> omega

/-- The run of digits from k on, at most r of them: where it ends, and its value behind v. -/
def scan (s : ByteArray) : Nat → Nat → Nat → Nat × Nat
  | 0, k, v => (k, v)
  | r + 1, k, v => if dg (byteAt s k) then scan s r (k + 1) (sat v (byteAt s k - 48)) else (k, v)

theorem scan_stop (s : ByteArray) (r k v : Nat) (h : dg (byteAt s k) = false) : scan s r k v = (k, v) := by
  cases r <;> simp [scan, h]
theorem scan_end (s : ByteArray) (r k v : Nat) (h : ¬ k < s.size) : scan s r k v = (k, v) :=
  scan_stop s r k v (by rw [byteAt_out h]; rfl)
theorem scan_step (s : ByteArray) (r k v : Nat) (hr : 0 < r) (h : dg (byteAt s k) = true) : scan s r k v = scan s (r - 1) (k + 1) (sat v (byteAt s k - 48)) := by
  obtain ⟨r, rfl⟩ : ∃ q, r = q + 1 := ⟨r - 1, by omega⟩
  simp [scan, h]

theorem scan_ge (s : ByteArray) : ∀ r k v, k ≤ (scan s r k v).1
  | 0, k, v => by simp [scan]
  | r + 1, k, v => by
    have := scan_ge s r (k + 1) (sat v (byteAt s k - 48))
    simp only [scan]
    split <;> simp_all <;> omega
theorem scan_le (s : ByteArray) : ∀ r k v, (scan s r k v).1 ≤ k + r
  | 0, k, v => by simp [scan]
  | r + 1, k, v => by
    have := scan_le s r (k + 1) (sat v (byteAt s k - 48))
    simp only [scan]
    split <;> simp_all <;> omega
theorem scan_val (s : ByteArray) : ∀ r k v, v ≤ 18446744073709551615 → (scan s r k v).2 ≤ 18446744073709551615
  | 0, k, v, h => by simpa [scan] using h
  | r + 1, k, v, h => by
    simp only [scan]
    split
    · rename_i hd
      exact scan_val s r (k + 1) _ (sat_le (by have := dg_iff.1 hd; omega))
    · exact h
/-- All of the m bytes from k on are digits: the run goes on at least as far. -/
theorem scan_far (s : ByteArray) : ∀ m r k v, m ≤ r → (∀ j, j < m → dg (byteAt s (k + j)) = true) → k + m ≤ (scan s r k v).1
  | 0, r, k, v, _, _ => by have := scan_ge s r k v; omega
  | m + 1, r, k, v, h, hd => by
    rw [scan_step s r k v (by omega) (by simpa using hd 0 (by omega))]
    have := scan_far s m (r - 1) (k + 1) (sat v (byteAt s k - 48)) (by omega) (fun j hj => by
      have := hd (j + 1) (by omega)
      rw [show k + 1 + j = k + (j + 1) by omega]
      exact this)
    omega

/-- Where t starts with b and a digit: the run behind b. -/
def starts (t : ByteArray) (b : Nat) : Bool := decide (2 ≤ t.size) && (byteAt t 0 == b && dg (byteAt t 1))
/-- Where the number behind b ends, and its value. -/
def num (t : ByteArray) : Nat × Nat := scan t (t.size - 1) 1 0

theorem num_bounds (t : ByteArray) (h : 2 ≤ t.size) : 1 ≤ (num t).1 ∧ (num t).1 ≤ t.size ∧ (num t).2 ≤ 18446744073709551615 := by
  have h1 := scan_ge t (t.size - 1) 1 0
  have h2 := scan_le t (t.size - 1) 1 0
  have h3 := scan_val t (t.size - 1) 1 0 (by omega)
  unfold num
  omega

/-- The text behind its first byte. -/
theorem size_tail (t : ByteArray) : (t.extract 1 t.size).size = t.size - 1 := by simp
theorem byteAt_tail (t : ByteArray) (k : Nat) : byteAt (t.extract 1 t.size) k = byteAt t (k + 1) := by
  unfold byteAt
  by_cases h : k + 1 < t.size
  · have h' : k < (t.extract 1 t.size).size := by rw [size_tail]; omega
    rw [dif_pos h', dif_pos h]
    congr 1
    simp [ByteArray.getElem_extract, Nat.add_comm]
  · have h' : ¬ k < (t.extract 1 t.size).size := by rw [size_tail]; omega
    rw [dif_neg h', dif_neg h]
theorem scan_tail (t : ByteArray) : ∀ r k v, scan t r (k + 1) v = ((scan (t.extract 1 t.size) r k v).1 + 1, (scan (t.extract 1 t.size) r k v).2)
  | 0, k, v => by simp [scan]
  | r + 1, k, v => by
    simp only [scan]
    rw [byteAt_tail]
    by_cases h : dg (byteAt t (k + 1)) = true
    · simp only [h, if_true]
      exact scan_tail t r (k + 1) _
    · simp [h]
theorem num_tail (t : ByteArray) : num t = ((scan (t.extract 1 t.size) (t.extract 1 t.size).size 0 0).1 + 1, (scan (t.extract 1 t.size) (t.extract 1 t.size).size 0 0).2) := by
  unfold num
  rw [size_tail]
  exact scan_tail t (t.size - 1) 0 0
theorem cut_head (t : ByteArray) (n : Nat) : (t.extract 1 t.size).extract 0 n = t.extract 1 (min (n + 1) t.size) := by
  rw [ByteArray.extract_extract]
  congr 1
  omega
theorem cut_tail (t : ByteArray) (n : Nat) : (t.extract 1 t.size).extract n (t.extract 1 t.size).size = t.extract (n + 1) t.size := by
  rw [size_tail, ByteArray.extract_extract]
  congr 1 <;> omega

end Go.Proofs.Ybulkaaau.Plain
