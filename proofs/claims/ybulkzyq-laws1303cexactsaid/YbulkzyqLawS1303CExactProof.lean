/-
  THE PROOF OF 'Rows.LawS1303CExactSaid'. The frame is the shell's (proof-skeleton.mjs); the walk is ours.
-/
import Derived.Test.YbulkzyqRows
import Derived.WalkKit
import Derived.ProofKit
import Derived.OpenShut
import Derived.ShutString
import Derived.Test.YbulkzyqWalks
namespace Go.Proofs.Ybulkzyq.lawS1303CExact
open Go.ChangeShapes Go.WideShapes Go.ChangeAt Go.RowKit
open Go.ChangeMaps (open_string shut_string)
set_option linter.unusedVariables false      -- a walk need not use every 'w<i>' (that an integer argument fits its kind)

theorem own : ownKnob Yba.prog.godebug = none := by kernel_rfl

/-! ### STEP 1: THE WALK -/
/-- 'allDigits' and the digit's test, their answers letters. -/
theorem allDigits_at (s : ByteArray) (b : Bool) (hs : s.size ≤ maxLen) (h : Hid (Plain.allB s.data.toList = b)) (w : World) :
    Calls Yba.prog 6 #[.string s] w fun e w' => e = .returned (.bool b) ∧ w' = w := by
  have g := allDigits_any s w hs
  rw [h.out] at g
  exact g
theorem digit_at (c : Nat) (b : Bool) (hc : c ≤ 255) (h : Hid (Plain.digB c = b)) (w : World) : Calls Yba.prog 5 #[.int .u8 c] w fun e w' => e = .returned (.bool b) ∧ w' = w := by
  have g := digit_any c hc w
  rw [h.out] at g
  exact g

set_option maxHeartbeats 1000000 in
theorem walk_short (s : ByteArray) (hs : s.size ≤ 4096) (w : World) :
    Calls Yba.prog 3 #[.string s] w fun e w' => e = .returned (.bool true) ∧ w' = w := by
  have HM : Hid (s.size ≤ maxLen) := by show _ ≤ _; unfold maxLen; omega
  go_enter Yba.func3, Yba.ntmps3
  go_wp2
  go_loop [3, 4] (fun q i => ∃ k n : Nat, k ≤ s.size ∧ n ≤ k ∧ i = .int .i64 k ∧ q = .int .i64 n ∧ Hid (n = Plain.cnt (s.data.toList.take k))) (fun _ i => s.size - (intOf i).toNat)
  case atStart => exact ⟨0, 0, Nat.zero_le _, Nat.le_refl _, rfl, rfl, by show _ = _; simp [Plain.cnt]⟩
  case round =>
    obtain ⟨k, n, hk, hn, rfl, rfl, HN⟩ := hrel
    by_cases hlt : k < s.size
    · have HS : Hid (Plain.cnt (s.data.toList.take (k + 1)) = Plain.cnt (s.data.toList.take k) + if Plain.digB s[k].toNat then 1 else 0) := Plain.cnt_step s k hlt
      have hc : s[k].toNat ≤ 255 := by have := s[k].toNat_lt; omega
      cases hd : Plain.digB s[k].toNat with
      | true =>
        have HD : Hid (Plain.digB s[k].toNat = true) := hd
        clear hd
        go_wp2_with (go_at_call 5; refine (digit_at _ true hc HD _).mono ?_; rintro e w2 ⟨rfl, rfl⟩)
        go_round
        case rel => exact ⟨k + 1, n + 1, by omega, by omega, by go_num, by go_num, by show _ = _; rw [HS.out, HD.out, ← HN.out]; rfl⟩
        case measure => simp [intOf]; omega
      | false =>
        have HD : Hid (Plain.digB s[k].toNat = false) := hd
        clear hd
        go_wp2_with (go_at_call 5; refine (digit_at _ false hc HD _).mono ?_; rintro e w2 ⟨rfl, rfl⟩)
        go_round
        case rel => exact ⟨k + 1, n, by omega, by omega, by go_num, rfl, by show _ = _; rw [HS.out, HD.out, ← HN.out]; rfl⟩
        case measure => simp [intOf]; omega
    · have hn' : n = Plain.cnt s.data.toList := by rw [HN.out, Plain.cnt_end s k hlt]
      have hl : s.data.toList.length = s.size := by simp
      have h1 := Plain.cnt_all s.data.toList
      rw [← hn', hl] at h1
      by_cases h0 : s.size = 0
      · have HA : Hid (Plain.allB s.data.toList = false) := by
          show _ = _
          have : s.data.toList = [] := List.eq_nil_of_length_eq_zero (by omega)
          simp [Plain.allB, this]
        have h2 : ¬ (0 : Int) < (s.size : Int) := by omega
        have h3 : decide ((0 : Int) < (s.size : Int)) = false := decide_eq_false h2
        clear h1 hn' hl HN h0
        go_wp2_with (go_at_call 6; refine (allDigits_at s false HM.out HA _).mono ?_; rintro e w2 ⟨rfl, rfl⟩)
        go_ret
        exact ⟨rfl, rfl⟩
      · by_cases hall : n = s.size
        · have HA : Hid (Plain.allB s.data.toList = true) := by
            show _ = _
            have he : s.data.toList ≠ [] := fun e => by rw [e] at hl; simp at hl; omega
            simp only [Plain.allB, h1.1 hall, Bool.true_and, Bool.not_eq_true', List.isEmpty_eq_false_iff]
            exact he
          have h2 : (0 : Int) < (s.size : Int) := by omega
          have h3 : ((n : Int) == (s.size : Int)) = true := by simp; omega
          clear h1 hn' hl HN h0 hall
          go_wp2_with (go_at_call 6; refine (allDigits_at s true HM.out HA _).mono ?_; rintro e w2 ⟨rfl, rfl⟩)
          go_ret
          exact ⟨rfl, rfl⟩
        · have HA : Hid (Plain.allB s.data.toList = false) := by
            show _ = _
            have : ¬ s.data.toList.all Plain.isD = true := fun e => hall (h1.2 e)
            simp only [Plain.allB, Bool.and_eq_false_iff]
            left
            simpa using this
          have h2 : (0 : Int) < (s.size : Int) := by omega
          have h3 : ((n : Int) == (s.size : Int)) = false := by simp; omega
          clear h1 hn' hl HN h0 hall
          go_wp2_with (go_at_call 6; refine (allDigits_at s false HM.out HA _).mono ?_; rintro e w2 ⟨rfl, rfl⟩)
          go_ret
          exact ⟨rfl, rfl⟩

theorem walk_long (s : ByteArray) (hs : 4096 < s.size) (hm : s.size ≤ 9223372036854775807) (w : World) :
    Calls Yba.prog 3 #[.string s] w fun e w' => e = .returned (.bool true) ∧ w' = w := by
  go_enter Yba.func3, Yba.ntmps3
  go_wp2
  go_ret
  exact ⟨rfl, rfl⟩

theorem walk (a0 : ByteArray) (w0 : a0.size ≤ maxLen) (w : World) :
    Calls Yba.prog 3 #[.string a0] w fun e w' => e = .returned (.bool true) ∧ Grown w w' := by
  have h : Calls Yba.prog 3 #[.string a0] w fun e w' => e = .returned (.bool true) ∧ w' = w := by
    by_cases hs : a0.size ≤ 4096
    · exact walk_short a0 hs w
    · exact walk_long a0 (by omega) (by unfold maxLen at w0; omega) w
  refine h.mono ?_
  rintro e w' ⟨rfl, rfl⟩
  exact ⟨rfl, Grown.refl _⟩

/-! ### THE ROW's STEP: WRITTEN OUT: LEAVE IT -/
set_option maxRecDepth 100000 in
theorem lifted (os : Os) (started : os.Started) (H : Type) (enc : TypeId × Value → H) :
    ReturnsInHanded {} Yba.checked os 3 .any (Rows.lawS1303CExactSpec.pre6 enc Yba.prog Yba.f3 Rows.lawS1303CExactRow.domain false) (Rows.lawS1303CExactSpec.post enc Yba.prog Yba.f3 false true false false) := by
  refine returnsInHanded_of_change (C := Yba.checked) own started (by kernel_rfl) Yba.func3
    (ChangeSpec.witness6 (enc := enc) (C := Yba.checked) false ⟨#[], #[.string ByteArray.empty], []⟩ 8 (by kernel_rfl) (by kernel_rfl) (by kernel_rfl) (by kernel_rfl)) ?_
  intro W base args ds gs before hval0 hW hcnd _
  have hval : ∀ (j : Nat) t v, Yba.f3.params[j]? = some t → args[j]? = some v → Value.okWide Yba.prog W .any base t v := hval0
  have hW' := hW
  obtain ⟨p, q, hA0, hV, rfl, hfz, hnd⟩ := hW
  have hA : DataW.TrodAll enc Yba.prog W 0 (fun _ => true) true Yba.f3.params.toList args.toList ds p := hA0
  rw [Yba.params3] at hA hval
  obtain ⟨v0, vs0, d0, ds0, p0, q0, hargs, rfl, rfl, h0, r0⟩ := trodAll_cons hA
  obtain ⟨rfl, rfl, rfl⟩ := trodAll_nil r0
  obtain rfl : args = #[v0] := by cases args; simp_all
  obtain ⟨rfl, rfl⟩ := trodVars_none hV
  obtain ⟨a0, rfl, rfl, rfl, w0⟩ := open_string Yba.underlying9 (hval 0 9 v0 rfl rfl) h0
  clear hA0 hval0
  simp only [List.append_nil] at hW'
  refine (walk a0 w0 W).mono fun e W' ⟨he, hg⟩ => ?_
  subst he
  exact ⟨_, rfl, post_of_same (pa := []) (pv := []) hW' (fun _ _ _ => (trodAll_cons_mk (shut_bool Yba.underlying4 _) trodAll_mk0)) (fun sp _ => (trodAll_cons_mk (shut_string Yba.underlying9 w0) trodAll_mk0)) (fun _ _ => rfl) rfl
    (hg.frame _) hg.2.1 (ok_one (by kernel_rfl) rfl (okWide_bool_mk Yba.underlying4 _))⟩

theorem over : Rows.lawS1303CExactRow.holds Yba.pinned (OpenSpec.ofChange Rows.lawS1303CExactSpec) :=
  OpenClaim.holds_of_wide 3 Yba.f3 rfl rfl rfl rfl rfl rfl rfl ⟨rfl, rfl, rfl, rfl, rfl⟩ rfl rfl rfl rfl rfl (by kernel_rfl) Yba.func3 (by kernel_rfl)
    (of_decide_eq_true (by kernel_rfl)) (by unfold Func.isWrapper; first | (rw [if_pos (by decide +kernel)]; kernel_rfl) | (rw [if_neg (by decide +kernel)]; exact ⟨rfl, rfl⟩))
    (fun os started H enc _ => lifted os started H enc)

/-- ████ THE STATEMENT ████ -/
theorem proved : Rows.LawS1303CExactSaid :=
  over
#print axioms proved
end Go.Proofs.Ybulkzyq.lawS1303CExact
