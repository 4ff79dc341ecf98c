/-
  THE WALKS of isDigit and scanDecimal.
-/
import Derived.Test.YbulkaaauRows
import Derived.Test.YbulkaaauPlain
import Derived.WalkKit
import Derived.WalkSpells
namespace Go.Proofs.Ybulkaaau
open Go.RowKit

/-- isDigit, its answer a letter. -/
theorem isDigit_at (c : Nat) (b : Bool) (h : Hid (Plain.dg c = b)) (w : World) : Calls Yba.prog 13 #[.int .u8 c] w fun e w' => e = .returned (.bool b) ∧ w' = w := by
  by_cases h1 : (48 : Int) ≤ (c : Int)
  · by_cases h2 : (c : Int) ≤ 57
    · have hb : b = true := by rw [← h.out]; exact Plain.dg_yes (by omega) (by omega)
      subst hb
      clear h
      go_enter Yba.func13, Yba.ntmps13
      go_wp2
      go_ret
      exact ⟨rfl, rfl⟩
    · have hb : b = false := by rw [← h.out]; exact Plain.dg_no (by omega)
      have h2' : decide ((c : Int) ≤ 57) = false := decide_eq_false h2
      subst hb
      clear h
      go_enter Yba.func13, Yba.ntmps13
      go_wp2
      go_ret
      exact ⟨rfl, rfl⟩
  · have hb : b = false := by rw [← h.out]; exact Plain.dg_no (by omega)
    have h2' : decide ((48 : Int) ≤ (c : Int)) = false := decide_eq_false h1
    subst hb
    clear h
    go_enter Yba.func13, Yba.ntmps13
    go_wp2
    go_ret
    exact ⟨rfl, rfl⟩

/-- scanDecimal's three results; of the third nothing is said. -/
def ScanRet (n v : Nat) (e : Ending) : Prop := ∃ b : Bool, e = .returned (.tuple #[.int .u64 v, .int .i64 n, .bool b])

theorem step_lt {q k d : Nat} (h : q < 10 ^ k) (hd : d ≤ 9) : q * 10 + d < 10 ^ (k + 1) := by
  rw [Nat.pow_succ]
  omega
theorem scan_next {s : ByteArray} {k q : Nat} {r : Nat × Nat} (hlt : k < s.size) (hd : Plain.dg s[k].toNat = true) (h : Plain.scan s (s.size - k) k q = r) : Plain.scan s (s.size - (k + 1)) (k + 1) (Plain.sat q (s[k].toNat - 48)) = r := by
  rw [Plain.scan_step s _ k q (by omega) (by rw [Plain.byteAt_in hlt]; exact hd), Plain.byteAt_in hlt] at h
  exact h

set_option maxHeartbeats 4000000 in
theorem scanDecimal_any (s : ByteArray) (w : World) (hs : s.size ≤ 9223372036854775807) (n v : Nat) (HS : Hid (Plain.scan s s.size 0 0 = (n, v))) :
    Calls Yba.prog 15 #[.string s] w fun e w' => ScanRet n v e ∧ w' = w := by
  go_enter Yba.func15, Yba.ntmps15
  go_wp2
  go_loop [2, 3] (fun x i => ∃ k q : Nat, k ≤ s.size ∧ k ≤ 19 ∧ x = .int .u64 q ∧ i = .int .i64 k ∧ Hid (q < 10 ^ k) ∧ Hid (Plain.scan s (s.size - k) k q = (n, v))) (fun _ i => s.size - (intOf i).toNat)
  case atStart => exact ⟨0, 0, by omega, by omega, rfl, rfl, by show _ < _; simp, HS⟩
  case round =>
    obtain ⟨k, q, hk, hk19, rfl, rfl, HQ, HK⟩ := hrel
    by_cases hlt : k < s.size ∧ k < 19 ∧ Plain.dg (Plain.byteAt s k) = true
    · obtain ⟨hlt, h19, hdg⟩ := hlt
      rw [Plain.byteAt_in hlt] at hdg
      have HD : Hid (Plain.dg s[k].toNat = true) := hdg
      obtain ⟨b1, b2⟩ := Plain.dg_iff.1 hdg
      have hq : q < 1000000000000000000 := Nat.lt_of_lt_of_le HQ.out (Nat.pow_le_pow_right (by omega) (show k ≤ 18 by omega))
      have b1' : (48 : Int) ≤ (s[k].toNat : Int) := by omega
      have b2' : (s[k].toNat : Int) ≤ 57 := by omega
      have h19' : (k : Int) < 19 := by omega
      clear hdg b1 b2
      go_wp2_with (go_at_call 13; refine (isDigit_at _ true HD _).mono ?_; rintro e w2 ⟨rfl, rfl⟩)
      go_round
      case rel => exact ⟨k + 1, q * 10 + (s[k].toNat - 48), by omega, by omega, by go_num, by go_num, step_lt HQ.out (by omega), by have h := scan_next hlt HD.out HK.out; rw [Plain.sat_small (by omega)] at h; exact h⟩
      case measure => simp [intOf]; omega
    · have hq : q ≤ 18446744073709551615 := by
        have h1 := HQ.out
        have h2 : 10 ^ k ≤ 10 ^ 19 := Nat.pow_le_pow_right (by omega) hk19
        omega
      have hcase : (¬ k < s.size) ∨ (k < s.size ∧ ¬ k < 19) ∨ (k < s.size ∧ k < 19 ∧ Plain.dg (Plain.byteAt s k) = false) := by
        by_cases h1 : k < s.size
        · by_cases h2 : k < 19
          · right; right
            refine ⟨h1, h2, ?_⟩
            cases h3 : Plain.dg (Plain.byteAt s k)
            · rfl
            · exact absurd ⟨h1, h2, h3⟩ hlt
          · exact .inr (.inl ⟨h1, h2⟩)
        · exact .inl h1
      clear hlt
      rcases hcase with h1 | ⟨h1, h2⟩ | ⟨h1, h2, h3⟩
      · have h1' : decide ((k : Int) < (s.size : Int)) = false := decide_eq_false (by omega)
        go_wp2_with fail
        go_loop [2, 3, 4] (fun x i f => ∃ (k q : Nat) (b : Bool), k ≤ s.size ∧ q ≤ 18446744073709551615 ∧ x = .int .u64 q ∧ i = .int .i64 k ∧ f = .bool b ∧ Hid (Plain.scan s (s.size - k) k q = (n, v))) (fun _ i _ => s.size - (intOf i).toNat)
        case atStart => exact ⟨k, q, true, hk, hq, rfl, rfl, rfl, HK⟩
        case round =>
          clear h1 h1' hk hk19 hq HQ HK HS
          obtain ⟨k, q, b, hk, hq, rfl, rfl, rfl, HK⟩ := hrel
          by_cases hlt : k < s.size
          · cases hdg : Plain.dg s[k].toNat with
            | true =>
              have HD : Hid (Plain.dg s[k].toNat = true) := hdg
              obtain ⟨b1, b2⟩ := Plain.dg_iff.1 hdg
              have b1' : (48 : Int) ≤ (s[k].toNat : Int) := by omega
              have b2' : (s[k].toNat : Int) ≤ 57 := by omega
              have HN := scan_next hlt HD.out HK.out
              have HN' : Hid (Plain.scan s (s.size - (k + 1)) (k + 1) (Plain.sat q (s[k].toNat - 48)) = (n, v)) := HN
              clear hdg b1 b2 HN
              by_cases hov : (18446744073709551615 - ((s[k].toNat : Int) - 48)) / 10 < (q : Int)
              · have HO : Hid (Plain.sat q (s[k].toNat - 48) = 18446744073709551615) := Plain.sat_over (by omega)
                go_wp2_with (go_at_call 13; refine (isDigit_at _ true HD _).mono ?_; rintro e w3 ⟨rfl, rfl⟩)
                go_round
                case rel => exact ⟨k + 1, 18446744073709551615, false, by omega, by omega, rfl, by go_num, rfl, by have h := HN'.out; rw [HO.out] at h; exact h⟩
                case measure => simp [intOf]; omega
              · have HO : Hid (Plain.sat q (s[k].toNat - 48) = q * 10 + (s[k].toNat - 48)) := Plain.sat_plain (by omega)
                have hov' : decide ((18446744073709551615 - ((s[k].toNat : Int) - 48)) / 10 < (q : Int)) = false := decide_eq_false hov
                go_wp2_with (go_at_call 13; refine (isDigit_at _ true HD _).mono ?_; rintro e w3 ⟨rfl, rfl⟩)
                go_round
                case rel => exact ⟨k + 1, q * 10 + (s[k].toNat - 48), b, by omega, by omega, by go_num, by go_num, rfl, by have h := HN'.out; rw [HO.out] at h; exact h⟩
                case measure => simp [intOf]; omega
            | false =>
              have HD : Hid (Plain.dg s[k].toNat = false) := hdg
              have HE : Hid ((n, v) = (k, q)) := by show _ = _; rw [← HK.out]; exact Plain.scan_stop s _ k q (by rw [Plain.byteAt_in hlt]; exact hdg)
              clear hdg
              go_wp2_with (go_at_call 13; refine (isDigit_at _ false HD _).mono ?_; rintro e w3 ⟨rfl, rfl⟩)
              go_ret3
              obtain ⟨rfl, rfl⟩ := Prod.mk.inj HE.out
              exact ⟨⟨b, rfl⟩, rfl⟩
          · have HE : Hid ((n, v) = (k, q)) := by show _ = _; rw [← HK.out]; exact Plain.scan_end s _ k q hlt
            have hlt' : decide ((k : Int) < (s.size : Int)) = false := decide_eq_false (by omega)
            go_wp2
            go_ret3
            obtain ⟨rfl, rfl⟩ := Prod.mk.inj HE.out
            exact ⟨⟨b, rfl⟩, rfl⟩
      · have h2' : decide ((k : Int) < 19) = false := decide_eq_false (by omega)
        go_wp2_with fail
        go_loop [2, 3, 4] (fun x i f => ∃ (k q : Nat) (b : Bool), k ≤ s.size ∧ q ≤ 18446744073709551615 ∧ x = .int .u64 q ∧ i = .int .i64 k ∧ f = .bool b ∧ Hid (Plain.scan s (s.size - k) k q = (n, v))) (fun _ i _ => s.size - (intOf i).toNat)
        case atStart => exact ⟨k, q, true, hk, hq, rfl, rfl, rfl, HK⟩
        case round =>
          clear h1 h2 h2' hk hk19 hq HQ HK HS
          obtain ⟨k, q, b, hk, hq, rfl, rfl, rfl, HK⟩ := hrel
          by_cases hlt : k < s.size
          · cases hdg : Plain.dg s[k].toNat with
            | true =>
              have HD : Hid (Plain.dg s[k].toNat = true) := hdg
              obtain ⟨b1, b2⟩ := Plain.dg_iff.1 hdg
              have b1' : (48 : Int) ≤ (s[k].toNat : Int) := by omega
              have b2' : (s[k].toNat : Int) ≤ 57 := by omega
              have HN := scan_next hlt HD.out HK.out
              have HN' : Hid (Plain.scan s (s.size - (k + 1)) (k + 1) (Plain.sat q (s[k].toNat - 48)) = (n, v)) := HN
              clear hdg b1 b2 HN
              by_cases hov : (18446744073709551615 - ((s[k].toNat : Int) - 48)) / 10 < (q : Int)
              · have HO : Hid (Plain.sat q (s[k].toNat - 48) = 18446744073709551615) := Plain.sat_over (by omega)
                go_wp2_with (go_at_call 13; refine (isDigit_at _ true HD _).mono ?_; rintro e w3 ⟨rfl, rfl⟩)
                go_round
                case rel => exact ⟨k + 1, 18446744073709551615, false, by omega, by omega, rfl, by go_num, rfl, by have h := HN'.out; rw [HO.out] at h; exact h⟩
                case measure => simp [intOf]; omega
              · have HO : Hid (Plain.sat q (s[k].toNat - 48) = q * 10 + (s[k].toNat - 48)) := Plain.sat_plain (by omega)
                have hov' : decide ((18446744073709551615 - ((s[k].toNat : Int) - 48)) / 10 < (q : Int)) = false := decide_eq_false hov
                go_wp2_with (go_at_call 13; refine (isDigit_at _ true HD _).mono ?_; rintro e w3 ⟨rfl, rfl⟩)
                go_round
                case rel => exact ⟨k + 1, q * 10 + (s[k].toNat - 48), b, by omega, by omega, by go_num, by go_num, rfl, by have h := HN'.out; rw [HO.out] at h; exact h⟩
                case measure => simp [intOf]; omega
            | false =>
              have HD : Hid (Plain.dg s[k].toNat = false) := hdg
              have HE : Hid ((n, v) = (k, q)) := by show _ = _; rw [← HK.out]; exact Plain.scan_stop s _ k q (by rw [Plain.byteAt_in hlt]; exact hdg)
              clear hdg
              go_wp2_with (go_at_call 13; refine (isDigit_at _ false HD _).mono ?_; rintro e w3 ⟨rfl, rfl⟩)
              go_ret3
              obtain ⟨rfl, rfl⟩ := Prod.mk.inj HE.out
              exact ⟨⟨b, rfl⟩, rfl⟩
          · have HE : Hid ((n, v) = (k, q)) := by show _ = _; rw [← HK.out]; exact Plain.scan_end s _ k q hlt
            have hlt' : decide ((k : Int) < (s.size : Int)) = false := decide_eq_false (by omega)
            go_wp2
            go_ret3
            obtain ⟨rfl, rfl⟩ := Prod.mk.inj HE.out
            exact ⟨⟨b, rfl⟩, rfl⟩
      · rw [Plain.byteAt_in h1] at h3
        have HD : Hid (Plain.dg s[k].toNat = false) := h3
        clear h3
        go_wp2_with (go_at_call 13; refine (isDigit_at _ false HD _).mono ?_; rintro e w2 ⟨rfl, rfl⟩)
        go_loop [2, 3, 4] (fun x i f => ∃ (k q : Nat) (b : Bool), k ≤ s.size ∧ q ≤ 18446744073709551615 ∧ x = .int .u64 q ∧ i = .int .i64 k ∧ f = .bool b ∧ Hid (Plain.scan s (s.size - k) k q = (n, v))) (fun _ i _ => s.size - (intOf i).toNat)
        case atStart => exact ⟨k, q, true, hk, hq, rfl, rfl, rfl, HK⟩
        case round =>
          clear HD hk hk19 hq HQ HK HS
          obtain ⟨k, q, b, hk, hq, rfl, rfl, rfl, HK⟩ := hrel
          by_cases hlt : k < s.size
          · cases hdg : Plain.dg s[k].toNat with
            | true =>
              have HD : Hid (Plain.dg s[k].toNat = true) := hdg
              obtain ⟨b1, b2⟩ := Plain.dg_iff.1 hdg
              have b1' : (48 : Int) ≤ (s[k].toNat : Int) := by omega
              have b2' : (s[k].toNat : Int) ≤ 57 := by omega
              have HN := scan_next hlt HD.out HK.out
              have HN' : Hid (Plain.scan s (s.size - (k + 1)) (k + 1) (Plain.sat q (s[k].toNat - 48)) = (n, v)) := HN
              clear hdg b1 b2 HN
              by_cases hov : (18446744073709551615 - ((s[k].toNat : Int) - 48)) / 10 < (q : Int)
              · have HO : Hid (Plain.sat q (s[k].toNat - 48) = 18446744073709551615) := Plain.sat_over (by omega)
                go_wp2_with (go_at_call 13; refine (isDigit_at _ true HD _).mono ?_; rintro e w3 ⟨rfl, rfl⟩)
                go_round
                case rel => exact ⟨k + 1, 18446744073709551615, false, by omega, by omega, rfl, by go_num, rfl, by have h := HN'.out; rw [HO.out] at h; exact h⟩
                case measure => simp [intOf]; omega
              · have HO : Hid (Plain.sat q (s[k].toNat - 48) = q * 10 + (s[k].toNat - 48)) := Plain.sat_plain (by omega)
                have hov' : decide ((18446744073709551615 - ((s[k].toNat : Int) - 48)) / 10 < (q : Int)) = false := decide_eq_false hov
                go_wp2_with (go_at_call 13; refine (isDigit_at _ true HD _).mono ?_; rintro e w3 ⟨rfl, rfl⟩)
                go_round
                case rel => exact ⟨k + 1, q * 10 + (s[k].toNat - 48), b, by omega, by omega, by go_num, by go_num, rfl, by have h := HN'.out; rw [HO.out] at h; exact h⟩
                case measure => simp [intOf]; omega
            | false =>
              have HD : Hid (Plain.dg s[k].toNat = false) := hdg
              have HE : Hid ((n, v) = (k, q)) := by show _ = _; rw [← HK.out]; exact Plain.scan_stop s _ k q (by rw [Plain.byteAt_in hlt]; exact hdg)
              clear hdg
              go_wp2_with (go_at_call 13; refine (isDigit_at _ false HD _).mono ?_; rintro e w3 ⟨rfl, rfl⟩)
              go_ret3
              obtain ⟨rfl, rfl⟩ := Prod.mk.inj HE.out
              exact ⟨⟨b, rfl⟩, rfl⟩
          · have HE : Hid ((n, v) = (k, q)) := by show _ = _; rw [← HK.out]; exact Plain.scan_end s _ k q hlt
            have hlt' : decide ((k : Int) < (s.size : Int)) = false := decide_eq_false (by omega)
            go_wp2
            go_ret3
            obtain ⟨rfl, rfl⟩ := Prod.mk.inj HE.out
            exact ⟨⟨b, rfl⟩, rfl⟩

end Go.Proofs.Ybulkaaau
