/-
  THE PROOF OF 'Rows.LawS1297AModelSaid'. The frame is the shell's (proof-skeleton.mjs), its post told by 'Below' (the call makes memory by append); the walk is ours.
-/
import Derived.Test.YbulkzvkRows
import Derived.WalkKit
import Derived.ProofKit
import Derived.OpenShut
import Derived.ShutString
import Derived.ChangeOld
import Derived.Below
import Derived.Deep.RegionHeld3
import Derived.Test.YbulkzvkWalksE
namespace Go.Proofs.Ybulkzvk.lawS1297AModel
open Go.ChangeShapes Go.WideShapes Go.ChangeAt Go.RowKit
open Go.ChangeMaps (open_string shut_string)
set_option linter.unusedVariables false      -- a walk need not use every 'w<i>' (that an integer argument fits its kind)

theorem own : ownKnob Yba.prog.godebug = none := by kernel_rfl

/-! ### STEP 1: THE WALK -/
/-- What the two calls of the region need, and keep. -/
structure Inv (n L g b : Nat) (W w' : World) : Prop where
  geo : Geo n L g w'
  below : Below W.heap.size W w'
  old : W.heap.size ≤ b
  lt : g < b
  size : b + 1 ≤ w'.heap.size

theorem Inv.next {n L g b : Nat} {W w w' : World} (h : Inv n L g b W w) (hb : Below w.heap.size w w') : Inv n L g b W w' := by
  have := h.size
  have := h.lt
  have := h.old
  exact ⟨h.geo.kept hb (by omega), h.below.trans (hb.mono (by omega)), h.old, h.lt, by have := hb.size; omega⟩
theorem Inv.drew {n L g b : Nat} {W w : World} (h : Inv n L g b W w) : Inv n L g b W w.drew := h.next (Below.refl _ _).drew

theorem level_inv (n L g cap now due k b : Nat) (W : World) (hk : Hid (Plain.lev n L now due = k)) (hc : L + 1 ≤ cap) (hm : Hid (cap ≤ maxLen)) (hnow : now ≤ 18446744073709551615) (hdue : due ≤ 18446744073709551615) (w : World)
    (hS : w.cell? ⟨b, 0, none⟩ = some (.int .u64 n) ∧ w.cell? ⟨b, 1, none⟩ = some (.slice (some ⟨g, 0, none⟩) (L + 1) cap) ∧ Inv n L g b W w) :
    Calls Yba.prog 8 #[.agg #[.int .u64 n, .slice (some ⟨g, 0, none⟩) (L + 1) cap], .int .u64 now, .int .u64 due] w fun e w' => e = .returned (.int .i64 k) ∧
      w'.cell? ⟨b, 0, none⟩ = some (.int .u64 n) ∧ w'.cell? ⟨b, 1, none⟩ = some (.slice (some ⟨g, 0, none⟩) (L + 1) cap) ∧ Inv n L g b W w' := by
  obtain ⟨h0, h1, hI⟩ := hS
  have h := level_any n L g cap now due w hI.geo hc hm.out hnow hdue
  rw [hk.out] at h
  refine h.mono ?_
  rintro e w' ⟨rfl, hb⟩
  have := hI.size
  exact ⟨rfl, by rw [hb.cell (by simp; omega)]; exact h0, by rw [hb.cell (by simp; omega)]; exact h1, hI.next hb⟩

theorem model_inv (n L g cap now due k b : Nat) (W : World) (hk : Hid (Plain.lev n L now due = k)) (hc : L + 1 ≤ cap) (hm : Hid (cap ≤ maxLen)) (hnow : now ≤ 18446744073709551615) (hdue : due ≤ 18446744073709551615) (w : World)
    (hS : w.cell? ⟨b, 0, none⟩ = some (.int .u64 n) ∧ w.cell? ⟨b, 1, none⟩ = some (.slice (some ⟨g, 0, none⟩) (L + 1) cap) ∧ Inv n L g b W w) :
    Calls Yba.prog 9 #[.agg #[.int .u64 n, .slice (some ⟨g, 0, none⟩) (L + 1) cap], .int .u64 now, .int .u64 due] w fun e w' => e = .returned (.int .i64 k) ∧
      w'.cell? ⟨b, 0, none⟩ = some (.int .u64 n) ∧ w'.cell? ⟨b, 1, none⟩ = some (.slice (some ⟨g, 0, none⟩) (L + 1) cap) ∧ Inv n L g b W w' := by
  obtain ⟨h0, h1, hI⟩ := hS
  have h := model_any n L g cap now due w hI.geo hc hm.out hnow hdue
  rw [hk.out] at h
  refine h.mono ?_
  rintro e w' ⟨rfl, hb⟩
  have := hI.size
  exact ⟨rfl, by rw [hb.cell (by simp; omega)]; exact h0, by rw [hb.cell (by simp; omega)]; exact h1, hI.next hb⟩

set_option maxHeartbeats 2000000 in
theorem walk (a0 : Int) (a1 : Int) (a2 : Int) (w0 : (Lit.int .i64 a0).wf = true) (w1 : (Lit.int .u64 a1).wf = true) (w2 : (Lit.int .u64 a2).wf = true) (w : World) :
    Calls Yba.prog 3 #[.int .i64 a0, .int .u64 a1, .int .u64 a2] w fun e w' => e = .returned (.bool true) ∧ Below w.heap.size w w' := by
  obtain ⟨p1, q1⟩ := bounds_u64 w1
  obtain ⟨p2, q2⟩ := bounds_u64 w2
  obtain ⟨now, rfl⟩ := Int.eq_ofNat_of_zero_le p1
  obtain ⟨due, rfl⟩ := Int.eq_ofNat_of_zero_le p2
  clear w0 w1 w2 p1 p2
  have k1 : now ≤ 18446744073709551615 := by omega
  have k2 : due ≤ 18446744073709551615 := by omega
  clear q1 q2
  go_enter Yba.func3, Yba.ntmps3
  go_wp2_with fail
  refine (geo_any a0 _).mono ?_
  rintro e w1 ⟨n, L, g, cap, rfl, hc, hm, hg, G, hb⟩
  have HI : Inv n L g w1.heap.size w (w1.alloc (.cells #[.int .u64 n, .slice (some ⟨g, 0, none⟩) (L + 1) cap] 25)) :=
    ⟨G.kept ((Below.refl _ _).alloc (Nat.le_refl _) _) G.lt, hb.alloc hb.size _, hb.size, G.lt, by simp⟩
  have HB : Hid (Below w.heap.size w w1) := hb
  have hs1 : w.heap.size ≤ w1.heap.size := hb.size
  have HM : Hid (cap ≤ maxLen) := hm
  obtain ⟨k, HK⟩ : ∃ k, Hid (Plain.lev n L now due = k) := ⟨_, rfl⟩
  clear G hb hm
  go_wp2_with fail
  go_region_held3 (fun w' => w'.cell? ⟨w1.heap.size, 0, none⟩ = some (.int .u64 n) ∧ w'.cell? ⟨w1.heap.size, 1, none⟩ = some (.slice (some ⟨g, 0, none⟩) (L + 1) cap) ∧ Inv n L g w1.heap.size w w')
    (first | assumption | (refine ⟨?_, ?_, ?_⟩ <;> first | assumption | exact Inv.drew (by assumption) | (simp [go_sem]; done)))
    (first
      | (go_at_call 8; refine (level_inv n L g cap now due k w1.heap.size w HK hc HM k1 k2 _ ?_).mono ?_; assumption; rintro e w' ⟨rfl, hS⟩)
      | (go_at_call 9; refine (model_inv n L g cap now due k w1.heap.size w HK hc HM k1 k2 _ ?_).mono ?_; assumption; rintro e w' ⟨rfl, hS⟩))
  go_wp2
  go_ret
  exact ⟨rfl, hS.2.2.below⟩

/-! ### THE ROW's STEP: WRITTEN OUT: LEAVE IT -/
set_option maxRecDepth 100000 in
theorem lifted (os : Os) (started : os.Started) (H : Type) (enc : TypeId × Value → H) :
    ReturnsInHanded {} Yba.checked os 3 .any (Rows.lawS1297AModelSpec.pre6 enc Yba.prog Yba.f3 Rows.lawS1297AModelRow.domain false) (Rows.lawS1297AModelSpec.post enc Yba.prog Yba.f3 false true false false) := by
  refine returnsInHanded_of_change (C := Yba.checked) own started (by kernel_rfl) Yba.func3
    (ChangeSpec.witness6 (enc := enc) (C := Yba.checked) false ⟨#[], #[.int .i64 0, .int .u64 0, .int .u64 0], []⟩ 8 (by kernel_rfl) (by kernel_rfl) (by kernel_rfl) (by kernel_rfl)) ?_
  intro W base args ds gs before hval0 hW hcnd _
  have hval : ∀ (j : Nat) t v, Yba.f3.params[j]? = some t → args[j]? = some v → Value.okWide Yba.prog W .any base t v := hval0
  have hW' := hW
  obtain ⟨p, q, hA0, hV, rfl, hfz, hnd⟩ := hW
  have hA : DataW.TrodAll enc Yba.prog W 0 (fun _ => true) true Yba.f3.params.toList args.toList ds p := hA0
  rw [Yba.params3] at hA hval
  obtain ⟨v0, vs0, d0, ds0, p0, q0, hargs, rfl, rfl, h0, r0⟩ := trodAll_cons hA
  obtain ⟨v1, vs1, d1, ds1, p1, q1, rfl, rfl, rfl, h1, r1⟩ := trodAll_cons r0
  obtain ⟨v2, vs2, d2, ds2, p2, q2, rfl, rfl, rfl, h2, r2⟩ := trodAll_cons r1
  obtain ⟨rfl, rfl, rfl⟩ := trodAll_nil r2
  obtain rfl : args = #[v0, v1, v2] := by cases args; simp_all
  obtain ⟨rfl, rfl⟩ := trodVars_none hV
  obtain ⟨a0, rfl, rfl, rfl, w0⟩ := open_int Yba.underlying3 (hval 0 3 v0 rfl rfl) h0
  obtain ⟨a1, rfl, rfl, rfl, w1⟩ := open_int Yba.underlying22 (hval 1 22 v1 rfl rfl) h1
  obtain ⟨a2, rfl, rfl, rfl, w2⟩ := open_int Yba.underlying22 (hval 2 22 v2 rfl rfl) h2
  clear hA0 hval0
  simp only [List.append_nil] at hW'
  refine (walk a0 a1 a2 w0 w1 w2 W).mono fun e W' ⟨he, bel⟩ => ?_
  subst he
  exact ⟨_, rfl, _, _, _, [], [], [], hW', trodAll_mk1 (shut_bool Yba.underlying4 _), (trodAll_cons_mk (shut_int Yba.underlying3 w0) (trodAll_cons_mk (shut_int Yba.underlying22 w1) (trodAll_cons_mk (shut_int Yba.underlying22 w2) trodAll_mk0))), rfl, bel.frame _, fun h => by cases h⟩

theorem over : Rows.lawS1297AModelRow.holds Yba.pinned (OpenSpec.ofChange Rows.lawS1297AModelSpec) :=
  OpenClaim.holds_of_wide 3 Yba.f3 rfl rfl rfl rfl rfl rfl rfl ⟨rfl, rfl, rfl, rfl, rfl⟩ rfl rfl rfl rfl rfl (by kernel_rfl) Yba.func3 (by kernel_rfl)
    (of_decide_eq_true (by kernel_rfl)) (by unfold Func.isWrapper; first | (rw [if_pos (by decide +kernel)]; kernel_rfl) | (rw [if_neg (by decide +kernel)]; exact ⟨rfl, rfl⟩))
    (fun os started H enc _ => lifted os started H enc)

/-- ████ THE STATEMENT ████ -/
theorem proved : Rows.LawS1297AModelSaid :=
  over
#print axioms proved
end Go.Proofs.Ybulkzvk.lawS1297AModel
