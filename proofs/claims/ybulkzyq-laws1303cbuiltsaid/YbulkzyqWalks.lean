/-
  THE WALKS of allDigits and zzs1303cdigit.
-/
import Derived.Test.YbulkzyqRows
import Derived.Test.YbulkzyqPlain
import Derived.WalkKit
import Derived.WalkSpells
namespace Go.Proofs.Ybulkzyq
open Go.RowKit

theorem ret_bool {a b : Bool} (h : a = b) : Ending.returned (.bool a) = .returned (.bool b) := by rw [h]

theorem digit_any (b : Nat) (hb : b ≤ 255) (w : World) : Calls Yba.prog 5 #[.int .u8 b] w fun e w' => e = .returned (.bool (Plain.digB b)) ∧ w' = w := by
  have h : decide (IntKind.u8.wrap ((b : Int) - 48) < 10) = Plain.digB b := by
    have : IntKind.u8.wrap ((b : Int) - 48) = ((b : Int) - 48) % 256 := by simp [IntKind.wrap, IntKind.bits, IntKind.signed]
    rw [this, Bool.eq_iff_iff]
    simp [Plain.digB]
    omega
  have H : Hid (decide (IntKind.u8.wrap ((b : Int) - 48) < 10) = Plain.digB b) := h
  clear h
  go_enter Yba.func5, Yba.ntmps5
  go_wp2
  go_ret
  exact ⟨ret_bool H.out, rfl⟩

set_option maxHeartbeats 400000 in
theorem allDigits_any (s : ByteArray) (w : World) (hs : s.size ≤ maxLen) :
    Calls Yba.prog 6 #[.string s] w fun e w' => e = .returned (.bool (Plain.allB s.data.toList)) ∧ w' = w := by
  have hs' : s.size ≤ 9223372036854775807 := by unfold maxLen at hs; omega
  clear hs
  go_enter Yba.func6, Yba.ntmps6
  go_wp2
  go_loop [3] (fun i => ∃ k : Nat, k ≤ s.size ∧ i = .int .i64 k ∧ Hid ((s.data.toList.take k).all Plain.isD = true)) (fun i => s.size - (intOf i).toNat)
  case atStart => exact ⟨0, Nat.zero_le _, rfl, by show _ = _; simp⟩
  case round =>
    obtain ⟨k, hk, rfl, HA⟩ := hrel
    by_cases hlt : k < s.size
    · by_cases h1 : (s[k].toNat : Int) < 48
      · have HN : Hid (Plain.digB s[k].toNat = false) := Plain.digB_no (by omega)
        go_wp2
        go_ret
        exact ⟨ret_bool (Plain.all_stop s k hlt HN.out).symm, rfl⟩
      · by_cases h2 : 57 < (s[k].toNat : Int)
        · have HN : Hid (Plain.digB s[k].toNat = false) := Plain.digB_no (by omega)
          go_wp2
          go_ret
          exact ⟨ret_bool (Plain.all_stop s k hlt HN.out).symm, rfl⟩
        · have HY : Hid (Plain.digB s[k].toNat = true) := Plain.digB_yes (by omega) (by omega)
          go_wp2
          go_round
          case rel => exact ⟨k + 1, by omega, by go_num, Plain.all_snoc s k hlt HA.out HY.out⟩
          case measure => simp [intOf]; omega
    · go_wp2
      go_ret
      exact ⟨ret_bool (by rw [Plain.all_end s k hlt HA.out, ByteArray.toList_eq]), rfl⟩

end Go.Proofs.Ybulkzyq
