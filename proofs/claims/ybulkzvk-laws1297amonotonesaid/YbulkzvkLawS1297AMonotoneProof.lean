/-
  THE PROOF OF 'Rows.LawS1297AMonotoneSaid'. The frame is the shell's (proof-skeleton.mjs), its post told by 'Below' (the call makes memory by append); the walk is ours.
-/
import Derived.Test.YbulkzvkRows
import Derived.WalkKit
import Derived.ProofKit
import Derived.OpenShut
import Derived.ShutString
import Derived.ChangeOld
import Derived.Below
import Derived.Test.YbulkzvkWalksD
namespace Go.Proofs.Ybulkzvk.lawS1297AMonotone
open Go.ChangeShapes Go.WideShapes Go.ChangeAt Go.RowKit
open Go.ChangeMaps (open_string shut_string)
set_option linter.unusedVariables false      -- a walk need not use every 'w<i>' (that an integer argument fits its kind)

theorem own : ownKnob Yba.prog.godebug = none := by kernel_rfl

/-! ### STEP 1: THE WALK -/
/-- 'level' once more, its answer a letter. -/
theorem level_at (n L g cap now due k : Nat) (hk : Hid (Plain.lev n L now due = k)) (w : World) (G : Geo n L g w) (hc : L + 1 ≤ cap) (hm : cap ≤ maxLen) (hnow : now ≤ 18446744073709551615) (hdue : due ≤ 18446744073709551615) :
    Calls Yba.prog 8 #[.agg #[.int .u64 n, .slice (some ⟨g, 0, none⟩) (L + 1) cap], .int .u64 now, .int .u64 due] w fun e w' => e = .returned (.int .i64 k) ∧ Below w.heap.size w w' := by
  have h := level_any n L g cap now due w G hc hm hnow hdue
  rw [hk.out] at h
  exact h

theorem facts_of (n L now x y : Nat) (h : x ≤ y) : ∃ la lb : Nat, Hid (Plain.lev n L now x = la) ∧ Hid (Plain.lev n L now y = lb) ∧ la ≤ lb ∧ lb ≤ L :=
  ⟨_, _, rfl, rfl, Plain.lev_mono n L now x y h, Plain.lev_le n L now y⟩

theorem bel3 {w w1 w2 w3 : World} {o : Obj} (h1 : Below w.heap.size w w1) (h2 : Below (w1.heap.size + 1) (w1.alloc o) w2) (h3 : Below w2.heap.size w2 w3) : Below w.heap.size w w3 := by
  have s1 := h1.size
  have s2 : w1.heap.size + 1 ≤ w2.heap.size := by have := h2.size; simpa using this
  exact ((h1.alloc s1 o).trans (h2.mono (by omega))).trans (h3.mono (by omega))

set_option maxHeartbeats 2000000 in
theorem walk (a0 : Int) (a1 : Int) (a2 : Int) (a3 : Int) (w0 : (Lit.int .i64 a0).wf = true) (w1 : (Lit.int .u64 a1).wf = true) (w2 : (Lit.int .u64 a2).wf = true) (w3 : (Lit.int .u64 a3).wf = true) (w : World) :
    Calls Yba.prog 4 #[.int .i64 a0, .int .u64 a1, .int .u64 a2, .int .u64 a3] w fun e w' => e = .returned (.bool true) ∧ Below w.heap.size w w' := by
  obtain ⟨p1, q1⟩ := bounds_u64 w1
  obtain ⟨p2, q2⟩ := bounds_u64 w2
  obtain ⟨p3, q3⟩ := bounds_u64 w3
  obtain ⟨now, rfl⟩ := Int.eq_ofNat_of_zero_le p1
  obtain ⟨x, rfl⟩ := Int.eq_ofNat_of_zero_le p2
  obtain ⟨y, rfl⟩ := Int.eq_ofNat_of_zero_le p3
  clear w0 w1 w2 w3 p1 p2 p3
  have k1 : now ≤ 18446744073709551615 := by omega
  have k2 : x ≤ 18446744073709551615 := by omega
  have k3 : y ≤ 18446744073709551615 := by omega
  clear q1 q2 q3
  go_enter Yba.func4, Yba.ntmps4
  go_wp2_with fail
  refine (geo_any a0 _).mono ?_
  rintro e w1 ⟨n, L, g, cap, rfl, hc, hm, hg, G, hb⟩
  have hL : L ≤ 63 := Plain.few n L G.two G.fits
  have HG : Hid (Geo n L g (w1.alloc (.cells #[.int .u64 n, .slice (some ⟨g, 0, none⟩) (L + 1) cap] 25))) := G.kept ((Below.refl _ _).alloc (Nat.le_refl _) _) G.lt
  have HB : Hid (Below w.heap.size w w1) := hb
  have hs1 : w.heap.size ≤ w1.heap.size := hb.size
  have hgl := G.lt
  have HM : Hid (cap ≤ maxLen) := hm
  clear G hb hm
  by_cases hxy : y < x
  · obtain ⟨la, lb, Ha, Hb, hab, hbl⟩ := facts_of n L now y x (by omega)
    go_wp2_with fail
    refine (level_at n L g cap now y la Ha _ HG.out hc HM.out k1 k3).mono ?_
    rintro e w2 ⟨rfl, hb2⟩
    simp at hb2
    have c0 : w2.cell? ⟨w1.heap.size, 0, none⟩ = some (.int .u64 n) := by rw [hb2.cell (by simp)]; simp [go_sem]
    have c1 : w2.cell? ⟨w1.heap.size, 1, none⟩ = some (.slice (some ⟨g, 0, none⟩) (L + 1) cap) := by rw [hb2.cell (by simp)]; simp [go_sem]
    have hs2 : w1.heap.size + 1 ≤ w2.heap.size := by have := hb2.size; simpa using this
    have HB2 : Hid (Below (w1.heap.size + 1) (w1.alloc (.cells #[.int .u64 n, .slice (some ⟨g, 0, none⟩) (L + 1) cap] 25)) w2) := hb2
    have HG2 : Hid (Geo n L g w2) := HG.out.kept hb2 (by omega)
    clear hb2
    go_wp2_with fail
    refine (level_at n L g cap now x lb Hb _ HG2.out hc HM.out k1 k2).mono ?_
    rintro e w3 ⟨rfl, hb3⟩
    have d1 : w3.cell? ⟨w1.heap.size, 1, none⟩ = some (.slice (some ⟨g, 0, none⟩) (L + 1) cap) := by rw [hb3.cell (by simp; omega)]; exact c1
    have HB3 : Hid (Below w2.heap.size w2 w3) := hb3
    clear hb3 c0 c1
    go_wp2
    go_ret
    exact ⟨rfl, bel3 HB.out HB2.out HB3.out⟩
  · obtain ⟨la, lb, Ha, Hb, hab, hbl⟩ := facts_of n L now x y (by omega)
    go_wp2_with fail
    refine (level_at n L g cap now x la Ha _ HG.out hc HM.out k1 k2).mono ?_
    rintro e w2 ⟨rfl, hb2⟩
    simp at hb2
    have c0 : w2.cell? ⟨w1.heap.size, 0, none⟩ = some (.int .u64 n) := by rw [hb2.cell (by simp)]; simp [go_sem]
    have c1 : w2.cell? ⟨w1.heap.size, 1, none⟩ = some (.slice (some ⟨g, 0, none⟩) (L + 1) cap) := by rw [hb2.cell (by simp)]; simp [go_sem]
    have hs2 : w1.heap.size + 1 ≤ w2.heap.size := by have := hb2.size; simpa using this
    have HB2 : Hid (Below (w1.heap.size + 1) (w1.alloc (.cells #[.int .u64 n, .slice (some ⟨g, 0, none⟩) (L + 1) cap] 25)) w2) := hb2
    have HG2 : Hid (Geo n L g w2) := HG.out.kept hb2 (by omega)
    clear hb2
    go_wp2_with fail
    refine (level_at n L g cap now y lb Hb _ HG2.out hc HM.out k1 k3).mono ?_
    rintro e w3 ⟨rfl, hb3⟩
    have d1 : w3.cell? ⟨w1.heap.size, 1, none⟩ = some (.slice (some ⟨g, 0, none⟩) (L + 1) cap) := by rw [hb3.cell (by simp; omega)]; exact c1
    have HB3 : Hid (Below w2.heap.size w2 w3) := hb3
    clear hb3 c0 c1
    go_wp2
    go_ret
    exact ⟨rfl, bel3 HB.out HB2.out HB3.out⟩

/-! ### THE ROW's STEP: WRITTEN OUT: LEAVE IT -/
set_option maxRecDepth 100000 in
theorem lifted (os : Os) (started : os.Started) (H : Type) (enc : TypeId × Value → H) :
    ReturnsInHanded {} Yba.checked os 4 .any (Rows.lawS1297AMonotoneSpec.pre6 enc Yba.prog Yba.f4 Rows.lawS1297AMonotoneRow.domain false) (Rows.lawS1297AMonotoneSpec.post enc Yba.prog Yba.f4 false true false false) := by
  refine returnsInHanded_of_change (C := Yba.checked) own started (by kernel_rfl) Yba.func4
    (ChangeSpec.witness6 (enc := enc) (C := Yba.checked) false ⟨#[], #[.int .i64 0, .int .u64 0, .int .u64 0, .int .u64 0], []⟩ 8 (by kernel_rfl) (by kernel_rfl) (by kernel_rfl) (by kernel_rfl)) ?_
  intro W base args ds gs before hval0 hW hcnd _
  have hval : ∀ (j : Nat) t v, Yba.f4.params[j]? = some t → args[j]? = some v → Value.okWide Yba.prog W .any base t v := hval0
  have hW' := hW
  obtain ⟨p, q, hA0, hV, rfl, hfz, hnd⟩ := hW
  have hA : DataW.TrodAll enc Yba.prog W 0 (fun _ => true) true Yba.f4.params.toList args.toList ds p := hA0
  rw [Yba.params4] at hA hval
  obtain ⟨v0, vs0, d0, ds0, p0, q0, hargs, rfl, rfl, h0, r0⟩ := trodAll_cons hA
  obtain ⟨v1, vs1, d1, ds1, p1, q1, rfl, rfl, rfl, h1, r1⟩ := trodAll_cons r0
  obtain ⟨v2, vs2, d2, ds2, p2, q2, rfl, rfl, rfl, h2, r2⟩ := trodAll_cons r1
  obtain ⟨v3, vs3, d3, ds3, p3, q3, rfl, rfl, rfl, h3, r3⟩ := trodAll_cons r2
  obtain ⟨rfl, rfl, rfl⟩ := trodAll_nil r3
  obtain rfl : args = #[v0, v1, v2, v3] := by cases args; simp_all
  obtain ⟨rfl, rfl⟩ := trodVars_none hV
  obtain ⟨a0, rfl, rfl, rfl, w0⟩ := open_int Yba.underlying3 (hval 0 3 v0 rfl rfl) h0
  obtain ⟨a1, rfl, rfl, rfl, w1⟩ := open_int Yba.underlying22 (hval 1 22 v1 rfl rfl) h1
  obtain ⟨a2, rfl, rfl, rfl, w2⟩ := open_int Yba.underlying22 (hval 2 22 v2 rfl rfl) h2
  obtain ⟨a3, rfl, rfl, rfl, w3⟩ := open_int Yba.underlying22 (hval 3 22 v3 rfl rfl) h3
  clear hA0 hval0
  simp only [List.append_nil] at hW'
  refine (walk a0 a1 a2 a3 w0 w1 w2 w3 W).mono fun e W' ⟨he, bel⟩ => ?_
  subst he
  exact ⟨_, rfl, _, _, _, [], [], [], hW', trodAll_mk1 (shut_bool Yba.underlying4 _), (trodAll_cons_mk (shut_int Yba.underlying3 w0) (trodAll_cons_mk (shut_int Yba.underlying22 w1) (trodAll_cons_mk (shut_int Yba.underlying22 w2) (trodAll_cons_mk (shut_int Yba.underlying22 w3) trodAll_mk0)))), rfl, bel.frame _, fun h => by cases h⟩

theorem over : Rows.lawS1297AMonotoneRow.holds Yba.pinned (OpenSpec.ofChange Rows.lawS1297AMonotoneSpec) :=
  OpenClaim.holds_of_wide 4 Yba.f4 rfl rfl rfl rfl rfl rfl rfl ⟨rfl, rfl, rfl, rfl, rfl⟩ rfl rfl rfl rfl rfl (by kernel_rfl) Yba.func4 (by kernel_rfl)
    (of_decide_eq_true (by kernel_rfl)) (by unfold Func.isWrapper; first | (rw [if_pos (by decide +kernel)]; kernel_rfl) | (rw [if_neg (by decide +kernel)]; exact ⟨rfl, rfl⟩))
    (fun os started H enc _ => lifted os started H enc)

/-- ████ THE STATEMENT ████ -/
theorem proved : Rows.LawS1297AMonotoneSaid :=
  over
#print axioms proved
end Go.Proofs.Ybulkzvk.lawS1297AMonotone
