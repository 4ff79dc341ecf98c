/-
  THE WALK of zzs1307amodel where the text starts with b and a digit.
-/
import Derived.Test.YbulkaaauNum
namespace Go.Proofs.Ybulkaaau
open Go.RowKit

set_option maxHeartbeats 4000000 in
theorem model_yes (t : ByteArray) (b : Nat) (w : World) (hs : t.size ≤ 9223372036854775807) (h2 : 2 ≤ t.size) (h0 : t[0].toNat = b) (h1 : Plain.dg t[1].toNat = true) (n v : Nat) (HN : Hid (Plain.num t = (n, v))) :
    Calls Yba.prog 8 #[.string t, .int .u8 b] w fun e w' => e = .returned (yesV t n v) ∧ Below w.heap.size w w' := by
  obtain ⟨d1, d2⟩ := Plain.dg_iff.1 h1
  have h0' : ((t[0].toNat : Int) != (b : Int)) = false := by simp; omega
  have h2' : decide ((t.size : Int) < 2) = false := decide_eq_false (by omega)
  have h3' : decide ((t[1].toNat : Int) < 48) = false := decide_eq_false (by omega)
  have h4' : decide ((57 : Int) < (t[1].toNat : Int)) = false := decide_eq_false (by omega)
  clear h0 h1 d1 d2
  go_enter Yba.func8, Yba.ntmps8
  go_wp2_with fail
  go_loop [7, 8, 9] (fun i x f => ∃ (k q : Nat) (g : Bool), 1 ≤ k ∧ k ≤ t.size ∧ q ≤ 18446744073709551615 ∧ i = .int .i64 k ∧ x = .int .u64 q ∧ f = .bool g ∧ Hid (g = true → q = 18446744073709551615) ∧ Hid (Plain.scan t (t.size - k) k q = (n, v))) (fun i _ _ => t.size - (intOf i).toNat)
  case atStart => exact ⟨1, 0, false, by omega, by omega, by omega, rfl, rfl, rfl, (fun h => by cases h), HN⟩
  case round =>
    clear h0' h2' h3' h4' HN
    obtain ⟨k, q, g, hk1, hk, hq, rfl, rfl, rfl, HG, HK⟩ := hrel
    by_cases hlt : k < t.size
    · by_cases hdg : 48 ≤ t[k].toNat ∧ t[k].toNat ≤ 57
      · obtain ⟨b1, b2⟩ := hdg
        have HN' : Hid (Plain.scan t (t.size - (k + 1)) (k + 1) (Plain.sat q (t[k].toNat - 48)) = (n, v)) := scan_next hlt (Plain.dg_yes b1 b2) HK.out
        have b1' : (48 : Int) ≤ (t[k].toNat : Int) := by omega
        have b2' : (t[k].toNat : Int) ≤ 57 := by omega
        cases g with
        | true =>
          have hq' : q = 18446744073709551615 := HG.out rfl
          have HO : Hid (Plain.sat q (t[k].toNat - 48) = 18446744073709551615) := by show _ = _; rw [hq']; exact Plain.sat_top _
          clear hq' b1 b2
          go_wp2
          go_round
          case rel => exact ⟨k + 1, 18446744073709551615, true, by omega, by omega, by omega, by go_num, rfl, rfl, fun _ => rfl, by have h := HN'.out; rw [HO.out] at h; exact h⟩
          case measure => simp [intOf]; omega
        | false =>
          by_cases hov : (18446744073709551615 - ((t[k].toNat : Int) - 48)) / 10 < (q : Int)
          · have HO : Hid (Plain.sat q (t[k].toNat - 48) = 18446744073709551615) := Plain.sat_over (by omega)
            have hov' : decide ((18446744073709551615 - ((t[k].toNat : Int) - 48)) / 10 < (q : Int)) = true := decide_eq_true hov
            clear b1 b2
            go_wp2
            go_round
            case rel => exact ⟨k + 1, 18446744073709551615, true, by omega, by omega, by omega, by go_num, rfl, rfl, fun _ => rfl, by have h := HN'.out; rw [HO.out] at h; exact h⟩
            case measure => simp [intOf]; omega
          · have HO : Hid (Plain.sat q (t[k].toNat - 48) = q * 10 + (t[k].toNat - 48)) := Plain.sat_plain (by omega)
            have hov' : decide ((18446744073709551615 - ((t[k].toNat : Int) - 48)) / 10 < (q : Int)) = false := decide_eq_false hov
            go_wp2
            go_round
            case rel => exact ⟨k + 1, q * 10 + (t[k].toNat - 48), false, by omega, by omega, by omega, by go_num, by go_num, rfl, (fun h => by cases h), by have h := HN'.out; rw [HO.out] at h; exact h⟩
            case measure => simp [intOf]; omega
      · have HE : Hid ((n, v) = (k, q)) := by show _ = _; rw [← HK.out]; exact Plain.scan_stop t _ k q (by rw [Plain.byteAt_in hlt]; exact Plain.dg_no hdg)
        by_cases h48 : (48 : Int) ≤ (t[k].toNat : Int)
        · have h48' : decide ((48 : Int) ≤ (t[k].toNat : Int)) = true := decide_eq_true h48
          have h57' : decide ((t[k].toNat : Int) ≤ 57) = false := decide_eq_false (by omega)
          clear hdg
          go_wp2
          go_region
          all_goals go_wp2
          all_goals (obtain ⟨e1, e2⟩ := Prod.mk.inj HE.out; rw [e1, e2]; exact bodyPost_ret (v := yesV t k q) (by simp [yesV, results, Yba.results8, go_sem]) rfl ⟨rfl, ((Below.refl _ _).alloc (Nat.le_refl _) _).drew⟩)
        · have h48' : decide ((48 : Int) ≤ (t[k].toNat : Int)) = false := decide_eq_false h48
          clear hdg
          go_wp2
          go_region
          all_goals go_wp2
          all_goals (obtain ⟨e1, e2⟩ := Prod.mk.inj HE.out; rw [e1, e2]; exact bodyPost_ret (v := yesV t k q) (by simp [yesV, results, Yba.results8, go_sem]) rfl ⟨rfl, ((Below.refl _ _).alloc (Nat.le_refl _) _).drew⟩)
    · have HE : Hid ((n, v) = (k, q)) := by show _ = _; rw [← HK.out]; exact Plain.scan_end t _ k q hlt
      have hlt' : decide ((k : Int) < (t.size : Int)) = false := decide_eq_false (by omega)
      go_wp2
      go_region
      all_goals go_wp2
      all_goals (obtain ⟨e1, e2⟩ := Prod.mk.inj HE.out; rw [e1, e2]; exact bodyPost_ret (v := yesV t k q) (by simp [yesV, results, Yba.results8, go_sem]) rfl ⟨rfl, ((Below.refl _ _).alloc (Nat.le_refl _) _).drew⟩)

end Go.Proofs.Ybulkaaau
