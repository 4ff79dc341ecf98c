/-
  THE WALKS of nextNumber, numberAfter and zzs1307amodel.
-/
import Derived.Test.YbulkaaauScan
import Derived.WalkLawsBesides
import Derived.RegionTactic
import Derived.BigRegion
import Derived.WalkSmall
namespace Go.Proofs.Ybulkaaau
open Go.RowKit

set_option maxHeartbeats 2000000 in
theorem nextNumber_any (s : ByteArray) (w : World) (hs : s.size ≤ 9223372036854775807) (n v : Nat) (HS : Hid (Plain.scan s s.size 0 0 = (n, v))) :
    Calls Yba.prog 14 #[.string s] w fun e w' => e = .returned (.tuple #[.agg #[.string (s.extract 0 n), .int .u64 v, .bool false], .string (s.extract n s.size)]) ∧ Below w.heap.size w w' := by
  have hn : n ≤ s.size := by have h := Plain.scan_le s s.size 0 0; rw [HS.out] at h; simpa using h
  go_enter Yba.func14, Yba.ntmps14
  go_wp2_with (go_at_call 15; refine (scanDecimal_any s _ hs n v HS).mono ?_; rintro e w2 ⟨⟨b, rfl⟩, rfl⟩)
  go_region
  all_goals go_wp2
  all_goals exact bodyPost_ret (v := .tuple #[.agg #[.string (s.extract 0 n), .int .u64 v, .bool false], .string (s.extract n s.size)]) (by simp [results, Yba.results14, go_sem]) rfl ⟨rfl, ((Below.refl _ _).alloc (Nat.le_refl _) _).drew⟩

theorem Num.hide {p : Prop} (h : p) : Hid p := h

/-- A result variable of three cells, behind a callee that makes memory. -/
theorem Num.kept {w w3 : World} {u0 u1 u2 : Value} (hb : Below (w.alloc (.cells #[u0, u1, u2] 25)).heap.size (w.alloc (.cells #[u0, u1, u2] 25)) w3) :
    w3.cell? ⟨w.heap.size, 0, none⟩ = some u0 ∧ w3.cell? ⟨w.heap.size, 1, none⟩ = some u1 ∧ w3.cell? ⟨w.heap.size, 2, none⟩ = some u2 ∧
    w3.frozen? ⟨w.heap.size, 0, none⟩ = false ∧ w3.frozen? ⟨w.heap.size, 1, none⟩ = false ∧ w3.frozen? ⟨w.heap.size, 2, none⟩ = false ∧ w.heap.size < w3.heap.size ∧ Hid (Below w.heap.size w w3) := by
  have hs : w.heap.size < w3.heap.size := by have := hb.size; simp at this; omega
  refine ⟨?_, ?_, ?_, ?_, ?_, ?_, hs, ?_⟩
  · rw [hb.cell (by simp)]; simp [go_sem]
  · rw [hb.cell (by simp)]; simp [go_sem]
  · rw [hb.cell (by simp)]; simp [go_sem]
  · rw [hb.frozen (by simp)]; simp [go_sem]
  · rw [hb.frozen (by simp)]; simp [go_sem]
  · rw [hb.frozen (by simp)]; simp [go_sem]
  · exact ((Below.refl _ _).alloc (Nat.le_refl _) _).trans (hb.mono (by simp))

/-- What numberAfter and its restatement answer where t starts with b and a digit .. -/
def yesV (t : ByteArray) (n v : Nat) : Value := .tuple #[.agg #[.string (t.extract 1 n), .int .u64 v, .bool false], .string (t.extract n t.size), .bool true]
/-- .. and where it does not. -/
def noV (t : ByteArray) : Value := .tuple #[.agg #[.string ⟨#[]⟩, .int .u64 0, .bool false], .string t, .bool false]

set_option maxHeartbeats 2000000 in
theorem numberAfter_yes (t : ByteArray) (b : Nat) (w : World) (hs : t.size ≤ 9223372036854775807) (h2 : 2 ≤ t.size) (h0 : t[0].toNat = b) (h1 : Plain.dg t[1].toNat = true) (n v : Nat) (HN : Hid (Plain.num t = (n, v))) :
    Calls Yba.prog 7 #[.string t, .int .u8 b] w fun e w' => e = .returned (yesV t n v) ∧ Below w.heap.size w w' := by
  have HD : Hid (Plain.dg t[1].toNat = true) := h1
  have h0' : ((t[0].toNat : Int) != (b : Int)) = false := by simp; omega
  have h2' : decide ((t.size : Int) < 2) = false := decide_eq_false (by omega)
  obtain ⟨nb1, nb2, nb3⟩ := Plain.num_bounds t h2
  rw [HN.out] at nb1 nb2 nb3
  simp only at nb1 nb2 nb3
  have hnt := Plain.num_tail t
  rw [HN.out] at hnt
  obtain ⟨e1, e2⟩ := Prod.mk.inj hnt
  have HS : Hid (Plain.scan (t.extract 1 t.size) (t.extract 1 t.size).size 0 0 = (n - 1, v)) := by
    show _ = _
    apply Prod.ext
    · show _ = n - 1; omega
    · exact e2.symm
  have hx := nextNumber_any (t.extract 1 t.size)
  have HX : Hid (∀ w : World, Calls Yba.prog 14 #[.string (t.extract 1 t.size)] w fun e w' => e = .returned (.tuple #[.agg #[.string (t.extract 1 n), .int .u64 v, .bool false], .string (t.extract n t.size)]) ∧ Below w.heap.size w w') := by
    intro w
    have h := nextNumber_any (t.extract 1 t.size) w (by rw [Plain.size_tail]; omega) (n - 1) v HS
    rw [Plain.cut_head, Plain.cut_tail, show n - 1 + 1 = n by omega, show min n t.size = n by omega] at h
    exact h
  clear hx hnt e1 e2 HS h0 h1 HN
  go_enter Yba.func7, Yba.ntmps7
  go_wp2_with (first | (go_at_call 13; refine (isDigit_at _ true HD _).mono ?_; rintro e w3 ⟨rfl, rfl⟩) | (go_at_call 14; refine (HX.out _).mono ?_; rintro e w3 ⟨rfl, hb⟩; obtain ⟨c0, c1, c2, f0, f1, f2, hz, HB⟩ := Num.kept hb; clear hb))
  exact bodyPost_ret (v := yesV t n v) (by simp [yesV, results, Yba.results7, go_sem, c0, c1, c2, hz]) rfl ⟨rfl, (((HB.out.setCell (by simp) _).setCell (by simp) _).setCell (by simp) _).alloc (by simp; omega) _⟩

/-- Why t does not start with b and a digit: three ways, as the tests take them. -/
def Fails (t : ByteArray) (b : Nat) : Prop := t.size < 2 ∨ (2 ≤ t.size ∧ Plain.byteAt t 0 ≠ b) ∨ (2 ≤ t.size ∧ Plain.byteAt t 0 = b ∧ Plain.dg (Plain.byteAt t 1) = false)

set_option maxHeartbeats 2000000 in
theorem numberAfter_no (t : ByteArray) (b : Nat) (w : World) (hs : t.size ≤ 9223372036854775807) (h : Fails t b) :
    Calls Yba.prog 7 #[.string t, .int .u8 b] w fun e w' => e = .returned (noV t) ∧ Below w.heap.size w w' := by
  rcases h with h | ⟨h2, h0⟩ | ⟨h2, h0, h1⟩
  · have h2' : decide ((t.size : Int) < 2) = true := decide_eq_true (by omega)
    go_enter Yba.func7, Yba.ntmps7
    go_wp2_with fail
    exact bodyPost_ret (v := noV t) (by simp [noV, results, Yba.results7, go_sem]) rfl ⟨rfl, (Below.refl _ _).alloc (Nat.le_refl _) _⟩
  · have h2' : decide ((t.size : Int) < 2) = false := decide_eq_false (by omega)
    rw [Plain.byteAt_in (by omega)] at h0
    have h0' : ((t[0].toNat : Int) != (b : Int)) = true := by rw [bne_iff_ne]; omega
    clear h0
    go_enter Yba.func7, Yba.ntmps7
    go_wp2_with fail
    exact bodyPost_ret (v := noV t) (by simp [noV, results, Yba.results7, go_sem]) rfl ⟨rfl, (Below.refl _ _).alloc (Nat.le_refl _) _⟩
  · have h2' : decide ((t.size : Int) < 2) = false := decide_eq_false (by omega)
    rw [Plain.byteAt_in (by omega)] at h0 h1
    have h0' : ((t[0].toNat : Int) != (b : Int)) = false := by simp; omega
    have HD : Hid (Plain.dg t[1].toNat = false) := h1
    clear h0 h1
    go_enter Yba.func7, Yba.ntmps7
    go_wp2_with (go_at_call 13; refine (isDigit_at _ false HD _).mono ?_; rintro e w3 ⟨rfl, rfl⟩)
    exact bodyPost_ret (v := noV t) (by simp [noV, results, Yba.results7, go_sem]) rfl ⟨rfl, (Below.refl _ _).alloc (Nat.le_refl _) _⟩

set_option maxHeartbeats 2000000 in
theorem model_no (t : ByteArray) (b : Nat) (w : World) (hs : t.size ≤ 9223372036854775807) (h : Fails t b) :
    Calls Yba.prog 8 #[.string t, .int .u8 b] w fun e w' => e = .returned (noV t) ∧ Below w.heap.size w w' := by
  rcases h with h | ⟨h2, h0⟩ | ⟨h2, h0, h1⟩
  · have h2' : decide ((t.size : Int) < 2) = true := decide_eq_true (by omega)
    go_enter Yba.func8, Yba.ntmps8
    go_wp2_with fail
    exact bodyPost_ret (v := noV t) (by simp [noV, results, Yba.results8, go_sem]) rfl ⟨rfl, (Below.refl _ _).alloc (Nat.le_refl _) _⟩
  · have h2' : decide ((t.size : Int) < 2) = false := decide_eq_false (by omega)
    rw [Plain.byteAt_in (by omega)] at h0
    have h0' : ((t[0].toNat : Int) != (b : Int)) = true := by rw [bne_iff_ne]; omega
    clear h0
    go_enter Yba.func8, Yba.ntmps8
    go_wp2_with fail
    exact bodyPost_ret (v := noV t) (by simp [noV, results, Yba.results8, go_sem]) rfl ⟨rfl, (Below.refl _ _).alloc (Nat.le_refl _) _⟩
  · have h2' : decide ((t.size : Int) < 2) = false := decide_eq_false (by omega)
    rw [Plain.byteAt_in (by omega)] at h0 h1
    have h0' : ((t[0].toNat : Int) != (b : Int)) = false := by simp; omega
    by_cases h3 : (t[1].toNat : Int) < 48
    · have h3' : decide ((t[1].toNat : Int) < 48) = true := decide_eq_true h3
      clear h0 h1
      go_enter Yba.func8, Yba.ntmps8
      go_wp2_with fail
      exact bodyPost_ret (v := noV t) (by simp [noV, results, Yba.results8, go_sem]) rfl ⟨rfl, (Below.refl _ _).alloc (Nat.le_refl _) _⟩
    · have h3' : decide ((t[1].toNat : Int) < 48) = false := decide_eq_false h3
      have h4 : (57 : Int) < (t[1].toNat : Int) := by
        by_cases g : (57 : Int) < (t[1].toNat : Int)
        · exact g
        · rw [Plain.dg_yes (by omega) (by omega)] at h1; cases h1
      have h4' : decide ((57 : Int) < (t[1].toNat : Int)) = true := decide_eq_true h4
      clear h0 h1
      go_enter Yba.func8, Yba.ntmps8
      go_wp2_with fail
      exact bodyPost_ret (v := noV t) (by simp [noV, results, Yba.results8, go_sem]) rfl ⟨rfl, (Below.refl _ _).alloc (Nat.le_refl _) _⟩

end Go.Proofs.Ybulkaaau
