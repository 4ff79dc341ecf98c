/-
  THE PROOF OF 'Rows.LawS1307AModelSaid'. The frame is the shell's (proof-skeleton.mjs), its post told by 'Below' (the callees make memory); the walk is ours.
-/
import Derived.Test.YbulkaaauRows
import Derived.WalkKit
import Derived.ProofKit
import Derived.OpenShut
import Derived.ShutString
import Derived.ChangeOld
import Derived.Below
import Derived.Laws.IdiomStrings
import Derived.Test.YbulkaaauModel
namespace Go.Proofs.Ybulkaaau.lawS1307AModel
open Go.ChangeShapes Go.WideShapes Go.ChangeAt Go.RowKit
open Go.ChangeMaps (open_string shut_string)
set_option linter.unusedVariables false      -- a walk need not use every 'w<i>' (that an integer argument fits its kind)

theorem own : ownKnob Yba.prog.godebug = none := by kernel_rfl

/-! ### STEP 1: THE WALK -/
/-- numberAfter and its restatement answer the same. -/
theorem both (t : ByteArray) (b : Nat) (hs : t.size ≤ 9223372036854775807) : ∃ (x : ByteArray) (v : Nat) (r : ByteArray) (o : Bool),
    Hid (∀ w : World, Calls Yba.prog 7 #[.string t, .int .u8 b] w fun e w' => e = .returned (.tuple #[.agg #[.string x, .int .u64 v, .bool false], .string r, .bool o]) ∧ Below w.heap.size w w') ∧
    Hid (∀ w : World, Calls Yba.prog 8 #[.string t, .int .u8 b] w fun e w' => e = .returned (.tuple #[.agg #[.string x, .int .u64 v, .bool false], .string r, .bool o]) ∧ Below w.heap.size w w') := by
  by_cases h2 : 2 ≤ t.size
  · by_cases h0 : Plain.byteAt t 0 = b
    · cases h1 : Plain.dg (Plain.byteAt t 1) with
      | true =>
        rw [Plain.byteAt_in (by omega)] at h0 h1
        exact ⟨_, _, _, _, fun w => numberAfter_yes t b w hs h2 h0 h1 _ _ rfl, fun w => model_yes t b w hs h2 h0 h1 _ _ rfl⟩
      | false =>
        have hf : Fails t b := .inr (.inr ⟨h2, h0, h1⟩)
        exact ⟨_, _, _, _, fun w => numberAfter_no t b w hs hf, fun w => model_no t b w hs hf⟩
    · have hf : Fails t b := .inr (.inl ⟨h2, h0⟩)
      exact ⟨_, _, _, _, fun w => numberAfter_no t b w hs hf, fun w => model_no t b w hs hf⟩
  · have hf : Fails t b := .inl (by omega)
    exact ⟨_, _, _, _, fun w => numberAfter_no t b w hs hf, fun w => model_no t b w hs hf⟩

/-- 'string([]byte{b})'. -/
theorem lead_string (b : Nat) (hb : b ≤ 255) (w : World) : (convert 22 9 (.slice (some ⟨w.heap.size, 0, none⟩) 1 1)).run Yba.prog (w.alloc (.cells #[.int .u8 b] 5)) = .ok (.string ⟨#[UInt8.ofNat b]⟩) (w.alloc (.cells #[.int .u8 b] 5)) :=
  run_convert_bytes_back (P := Yba.prog) (w.alloc (.cells #[.int .u8 b] 5)) 22 9 5 ⟨w.heap.size, 0, none⟩ 1 [UInt8.ofNat b] Yba.underlying22 Yba.underlying5 Yba.underlying9 (fun j hj => by
    have : j = 0 := by simpa using hj
    subst this
    simp [go_sem, Addr.add]
    omega)

set_option maxHeartbeats 2000000 in
theorem walk_lead (b : Nat) (s : ByteArray) (hb : b ≤ 255) (hs : s.size ≤ 1024) (w : World) :
    Calls Yba.prog 3 #[.int .u8 b, .string s, .bool true] w fun e w' => e = .returned (.bool true) ∧ Below w.heap.size w w' := by
  have hs' : ¬ (1024 : Int) < (s.size : Int) := by omega
  have hcv := lead_string b hb w
  go_enter Yba.func3, Yba.ntmps3
  go_wp2_with fail
  clear hcv
  have ht : ((⟨#[UInt8.ofNat b]⟩ : ByteArray) ++ s).size ≤ 9223372036854775807 := by
    rw [ByteArray.size_append]
    have : (⟨#[UInt8.ofNat b]⟩ : ByteArray).size = 1 := rfl
    omega
  generalize (⟨#[UInt8.ofNat b]⟩ : ByteArray) ++ s = t at *
  obtain ⟨x, v, r, o, H7, H8⟩ := both t b ht
  refine (H7.out _).mono ?_
  rintro e w1 ⟨rfl, hb1⟩
  have HB1 : Hid (Below w.heap.size w w1) := ((Below.refl _ _).alloc (Nat.le_refl _) _).trans (hb1.mono (by simp))
  have hs1 : w.heap.size ≤ w1.heap.size := HB1.out.size
  clear hb1
  go_wp2_with fail
  refine (H8.out _).mono ?_
  rintro e w2 ⟨rfl, hb2⟩
  obtain ⟨c0, c1, c2, f0, f1, f2, hz, HB2⟩ := Num.kept hb2
  clear hb2
  go_wp2
  go_ret
  exact ⟨rfl, (HB1.out.trans (HB2.out.mono hs1)).alloc (by omega) _⟩

set_option maxHeartbeats 2000000 in
theorem walk_bare (b : Nat) (s : ByteArray) (hs : s.size ≤ 1024) (w : World) :
    Calls Yba.prog 3 #[.int .u8 b, .string s, .bool false] w fun e w' => e = .returned (.bool true) ∧ Below w.heap.size w w' := by
  have hs' : ¬ (1024 : Int) < (s.size : Int) := by omega
  obtain ⟨x, v, r, o, H7, H8⟩ := both s b (by omega)
  go_enter Yba.func3, Yba.ntmps3
  go_wp2_with fail
  refine (H7.out _).mono ?_
  rintro e w1 ⟨rfl, hb1⟩
  have HB1 : Hid (Below w.heap.size w w1) := hb1
  have hs1 : w.heap.size ≤ w1.heap.size := HB1.out.size
  clear hb1
  go_wp2_with fail
  refine (H8.out _).mono ?_
  rintro e w2 ⟨rfl, hb2⟩
  obtain ⟨c0, c1, c2, f0, f1, f2, hz, HB2⟩ := Num.kept hb2
  clear hb2
  go_wp2
  go_ret
  exact ⟨rfl, (HB1.out.trans (HB2.out.mono hs1)).alloc (by omega) _⟩

theorem walk_long (b : Int) (s : ByteArray) (l : Bool) (hs : 1024 < s.size) (hm : s.size ≤ 9223372036854775807) (w : World) :
    Calls Yba.prog 3 #[.int .u8 b, .string s, .bool l] w fun e w' => e = .returned (.bool true) ∧ Below w.heap.size w w' := by
  go_enter Yba.func3, Yba.ntmps3
  go_wp2
  go_ret
  exact ⟨rfl, Below.refl _ _⟩

theorem walk (a0 : Int) (a1 : ByteArray) (a2 : Bool) (w0 : (Lit.int .u8 a0).wf = true) (w1 : a1.size ≤ maxLen) (w : World) :
    Calls Yba.prog 3 #[.int .u8 a0, .string a1, .bool a2] w fun e w' => e = .returned (.bool true) ∧ Below w.heap.size w w' := by
  obtain ⟨h1, h2⟩ := bounds_u8 w0
  by_cases hs : a1.size ≤ 1024
  · obtain ⟨b, rfl⟩ := Int.eq_ofNat_of_zero_le h1
    cases a2 with
    | true => exact walk_lead b a1 (by omega) hs w
    | false => exact walk_bare b a1 hs w
  · exact walk_long a0 a1 a2 (by omega) (by unfold maxLen at w1; omega) w

/-! ### THE ROW's STEP: WRITTEN OUT: LEAVE IT -/
set_option maxRecDepth 100000 in
theorem lifted (os : Os) (started : os.Started) (H : Type) (enc : TypeId × Value → H) :
    ReturnsInHanded {} Yba.checked os 3 .any (Rows.lawS1307AModelSpec.pre6 enc Yba.prog Yba.f3 Rows.lawS1307AModelRow.domain false) (Rows.lawS1307AModelSpec.post enc Yba.prog Yba.f3 false true false false) := by
  refine returnsInHanded_of_change (C := Yba.checked) own started (by kernel_rfl) Yba.func3
    (ChangeSpec.witness6 (enc := enc) (C := Yba.checked) false ⟨#[], #[.int .u8 0, .string ByteArray.empty, .bool false], []⟩ 8 (by kernel_rfl) (by kernel_rfl) (by kernel_rfl) (by kernel_rfl)) ?_
  intro W base args ds gs before hval0 hW hcnd _
  have hval : ∀ (j : Nat) t v, Yba.f3.params[j]? = some t → args[j]? = some v → Value.okWide Yba.prog W .any base t v := hval0
  have hW' := hW
  obtain ⟨p, q, hA0, hV, rfl, hfz, hnd⟩ := hW
  have hA : DataW.TrodAll enc Yba.prog W 0 (fun _ => true) true Yba.f3.params.toList args.toList ds p := hA0
  rw [Yba.params3] at hA hval
  obtain ⟨v0, vs0, d0, ds0, p0, q0, hargs, rfl, rfl, h0, r0⟩ := trodAll_cons hA
  obtain ⟨v1, vs1, d1, ds1, p1, q1, rfl, rfl, rfl, h1, r1⟩ := trodAll_cons r0
  obtain ⟨v2, vs2, d2, ds2, p2, q2, rfl, rfl, rfl, h2, r2⟩ := trodAll_cons r1
  obtain ⟨rfl, rfl, rfl⟩ := trodAll_nil r2
  obtain rfl : args = #[v0, v1, v2] := by cases args; simp_all
  obtain ⟨rfl, rfl⟩ := trodVars_none hV
  obtain ⟨a0, rfl, rfl, rfl, w0⟩ := open_int Yba.underlying5 (hval 0 5 v0 rfl rfl) h0
  obtain ⟨a1, rfl, rfl, rfl, w1⟩ := open_string Yba.underlying9 (hval 1 9 v1 rfl rfl) h1
  obtain ⟨a2, rfl, rfl, rfl⟩ := open_bool Yba.underlying4 (hval 2 4 v2 rfl rfl) h2
  clear hA0 hval0
  simp only [List.append_nil] at hW'
  refine (walk a0 a1 a2 w0 w1 W).mono fun e W' ⟨he, bel⟩ => ?_
  subst he
  exact ⟨_, rfl, _, _, _, [], [], [], hW', trodAll_mk1 (shut_bool Yba.underlying4 _), (trodAll_cons_mk (shut_int Yba.underlying5 w0) (trodAll_cons_mk (shut_string Yba.underlying9 w1) (trodAll_cons_mk (shut_bool Yba.underlying4 _) trodAll_mk0))), rfl, bel.frame _, fun h => by cases h⟩

theorem over : Rows.lawS1307AModelRow.holds Yba.pinned (OpenSpec.ofChange Rows.lawS1307AModelSpec) :=
  OpenClaim.holds_of_wide 3 Yba.f3 rfl rfl rfl rfl rfl rfl rfl ⟨rfl, rfl, rfl, rfl, rfl⟩ rfl rfl rfl rfl rfl (by kernel_rfl) Yba.func3 (by kernel_rfl)
    (of_decide_eq_true (by kernel_rfl)) (by unfold Func.isWrapper; first | (rw [if_pos (by decide +kernel)]; kernel_rfl) | (rw [if_neg (by decide +kernel)]; exact ⟨rfl, rfl⟩))
    (fun os started H enc _ => lifted os started H enc)

/-- ████ THE STATEMENT ████ -/
theorem proved : Rows.LawS1307AModelSaid :=
  over
#print axioms proved
end Go.Proofs.Ybulkaaau.lawS1307AModel
