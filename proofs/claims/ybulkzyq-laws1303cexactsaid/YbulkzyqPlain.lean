/-
  THE PLAIN LAW under 'LawS1303CExact' and 'LawS1303CBuilt': no Go in sight.
-/
namespace Go.Proofs.Ybulkzyq.Plain

/-- An ASCII digit. -/
def digB (b : Nat) : Bool := decide (48 ≤ b ∧ b ≤ 57)
def isD (c : UInt8) : Bool := digB c.toNat

theorem digB_yes {b : Nat} (h1 : 48 ≤ b) (h2 : b ≤ 57) : digB b = true := by simp [digB, h1, h2]
theorem digB_no {b : Nat} (h : ¬ (48 ≤ b ∧ b ≤ 57)) : digB b = false := by simp [digB]; omega

/-- What 'allDigits' answers. -/
def allB (l : List UInt8) : Bool := l.all isD && !l.isEmpty

/-- How many digits. -/
def cnt (l : List UInt8) : Nat := (l.filter isD).length

theorem cnt_le (l : List UInt8) : cnt l ≤ l.length := List.length_filter_le _ _
theorem cnt_snoc (l : List UInt8) (c : UInt8) : cnt (l ++ [c]) = cnt l + if isD c then 1 else 0 := by
  unfold cnt
  rw [List.filter_append, List.length_append]
  cases h : isD c <;> simp [h]
theorem cnt_all (l : List UInt8) : cnt l = l.length ↔ l.all isD = true := by
  unfold cnt
  rw [List.length_filter_eq_length_iff, List.all_eq_true]

theorem take_snoc (s : ByteArray) (k : Nat) (h : k < s.size) : s.data.toList.take (k + 1) = s.data.toList.take k ++ [s[k]] := by
  rw [List.take_succ_eq_append_getElem (by simpa using h)]; rfl

theorem all_snoc (s : ByteArray) (k : Nat) (h : k < s.size) (h1 : (s.data.toList.take k).all isD = true) (h2 : digB s[k].toNat = true) : (s.data.toList.take (k + 1)).all isD = true := by
  rw [take_snoc s k h, List.all_append, h1]
  simpa [isD] using h2
theorem all_stop (s : ByteArray) (k : Nat) (h : k < s.size) (h2 : digB s[k].toNat = false) : allB s.data.toList = false := by
  have hm : s[k] ∈ s.data.toList := by
    have : s[k] = s.data.toList[k]'(by simpa using h) := rfl
    rw [this]
    exact List.getElem_mem _
  unfold allB
  rw [Bool.and_eq_false_iff]
  left
  rw [List.all_eq_false]
  exact ⟨s[k], hm, by simp [isD, h2]⟩
theorem all_end (s : ByteArray) (k : Nat) (h : ¬ k < s.size) (h1 : (s.data.toList.take k).all isD = true) : allB s.data.toList = !s.data.toList.isEmpty := by
  rw [List.take_of_length_le (by simp; omega)] at h1
  unfold allB
  rw [h1]
  simp
theorem cnt_step (s : ByteArray) (k : Nat) (h : k < s.size) : cnt (s.data.toList.take (k + 1)) = cnt (s.data.toList.take k) + if digB s[k].toNat then 1 else 0 := by
  rw [take_snoc s k h, cnt_snoc]; rfl
theorem cnt_end (s : ByteArray) (k : Nat) (h : ¬ k < s.size) : s.data.toList.take k = s.data.toList := List.take_of_length_le (by simp; omega)

/-- The byte that the loop takes from its table of twelve (the ten digits and their two neighbours) at an index below 12. -/
def tab (k : Nat) : UInt8 := if k < 10 then UInt8.ofNat (48 + k) else if k = 10 then 47 else 58

theorem tab_digit (k : Nat) (h : k < 12) : isD (tab k) = decide (k < 10) := by
  have : ∀ j : Fin 12, isD (tab j.val) = decide (j.val < 10) := by decide
  exact this ⟨k, h⟩

/-- What has been gathered, and what is wanted, behind the picks zs. -/
def gath (zs : List Int) : List UInt8 := zs.map fun z => tab (z.toNat % 12)
def good (zs : List Int) : Bool := zs.all fun z => decide (z.toNat % 12 < 10)

theorem gath_len (zs : List Int) : (gath zs).length = zs.length := by simp [gath]
theorem gath_snoc (zs : List Int) (z : Int) : gath (zs ++ [z]) = gath zs ++ [tab (z.toNat % 12)] := by simp [gath]
theorem good_snoc (zs : List Int) (z : Int) : good (zs ++ [z]) = (good zs && decide (z.toNat % 12 < 10)) := by simp [good]

theorem built (zs : List Int) : allB (gath zs) = (decide (0 < zs.length) && good zs) := by
  have h : (gath zs).all isD = good zs := by
    unfold gath good
    rw [List.all_map]
    apply List.all_congr rfl
    intro z
    exact tab_digit _ (Nat.mod_lt _ (by omega))
  unfold allB
  rw [h]
  cases zs <;> simp [gath, good]

theorem take_one (zs : List Int) (k : Nat) (h : k < zs.length) : zs.take (k + 1) = zs.take k ++ [zs.getD k 0] := by
  rw [List.take_succ_eq_append_getElem h]
  simp [List.getD, List.getElem?_eq_getElem h]

end Go.Proofs.Ybulkzyq.Plain
