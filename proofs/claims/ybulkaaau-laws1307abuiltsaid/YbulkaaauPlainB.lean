/-
  THE PLAIN LAW of 'LawS1307ABuilt': the text that is built. No Go in sight.
-/
import Derived.Test.YbulkaaauPlain
namespace Go.Proofs.Ybulkaaau.Plain

/-- The digits that the law makes of its numbers. -/
def digs (zs : List Int) : List UInt8 := zs.map fun z => UInt8.ofNat (48 + z.toNat % 10)
theorem digs_len (zs : List Int) : (digs zs).length = zs.length := by simp [digs]
theorem digs_at (zs : List Int) (j : Nat) (h : j < zs.length) : (digs zs)[j]? = some (UInt8.ofNat (48 + (zs.getD j 0).toNat % 10)) := by
  simp [digs, List.getD, List.getElem?_eq_getElem h]

/-- The text: b, the digits, the tail. -/
def text (b : Nat) (l : List UInt8) (tail : ByteArray) : ByteArray := (⟨#[UInt8.ofNat b]⟩ : ByteArray) ++ ⟨l.toArray⟩ ++ tail

theorem text_data (b : Nat) (l : List UInt8) (tail : ByteArray) : (text b l tail).data.toList = UInt8.ofNat b :: (l ++ tail.data.toList) := by
  simp [text, ByteArray.data_append]
theorem text_size (b : Nat) (l : List UInt8) (tail : ByteArray) : (text b l tail).size = 1 + l.length + tail.size := by
  have h : (text b l tail).size = (text b l tail).data.toList.length := by simp
  rw [h, text_data]
  simp
  omega

theorem byteAt_data (s : ByteArray) (k : Nat) : byteAt s k = match s.data.toList[k]? with | some c => c.toNat | none => 0 := by
  unfold byteAt
  by_cases h : k < s.size
  · have h' : k < s.data.toList.length := by simpa using h
    rw [dif_pos h, List.getElem?_eq_getElem h']
    rfl
  · have h' : s.data.toList.length ≤ k := by simpa using h
    rw [dif_neg h, List.getElem?_eq_none h']

theorem text_first (b : Nat) (hb : b ≤ 255) (l : List UInt8) (tail : ByteArray) : byteAt (text b l tail) 0 = b := by
  rw [byteAt_data, text_data]
  simp
  omega
theorem text_digit (b : Nat) (zs : List Int) (tail : ByteArray) (j : Nat) (hj : j < zs.length) : dg (byteAt (text b (digs zs) tail) (1 + j)) = true := by
  rw [byteAt_data, text_data, Nat.add_comm, List.getElem?_cons_succ, List.getElem?_append_left (by rw [digs_len]; exact hj), digs_at zs j hj]
  have h := Nat.mod_lt (zs.getD j 0).toNat (show 10 > 0 by omega)
  rw [dg_iff]
  generalize (zs.getD j 0).toNat % 10 = r at *
  simp
  omega

theorem num_far (b : Nat) (zs : List Int) (tail : ByteArray) (hz : 0 < zs.length) : 1 + zs.length ≤ (num (text b (digs zs) tail)).1 := by
  have hs := text_size b (digs zs) tail
  rw [digs_len] at hs
  exact scan_far _ zs.length _ 1 0 (by omega) (fun j hj => text_digit b zs tail j hj)

/-- The first bytes of the number's text are the digits. -/
theorem text_cut (b : Nat) (l : List UInt8) (tail : ByteArray) (n : Nat) (h1 : 1 + l.length ≤ n) (_h2 : n ≤ (text b l tail).size) : ((text b l tail).extract 1 n).extract 0 l.length = ⟨l.toArray⟩ := by
  rw [ByteArray.extract_extract]
  have hm : min (1 + l.length) n = 1 + l.length := by omega
  apply ByteArray.ext
  apply Array.ext'
  rw [ByteArray.data_extract, Array.toList_extract, List.extract_eq_take_drop, text_data]
  simp only [Nat.add_zero, hm]
  rw [show 1 + l.length - 1 = l.length by omega]
  simp
theorem cut_size (t : ByteArray) (n : Nat) (h1 : 1 ≤ n) (h2 : n ≤ t.size) : (t.extract 1 n).size = n - 1 ∧ (t.extract n t.size).size = t.size - n := by
  simp
  omega

end Go.Proofs.Ybulkaaau.Plain
