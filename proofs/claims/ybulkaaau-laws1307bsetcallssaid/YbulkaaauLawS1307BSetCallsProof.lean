/-
  THE PROOF OF 'Rows.LawS1307BSetCallsSaid'. The frame is the shell's (proof-skeleton.mjs); the walk is ours.
-/
import Derived.Test.YbulkaaauRows
import Derived.WalkKit
import Derived.ProofKit
import Derived.OpenShut
import Derived.ShutString
import Derived.ChangeOld
import Derived.Below
import Derived.WalkSmall
import Derived.Deep.QuietTactic
import Derived.BigQuiet
import Derived.Test.YbulkaaauByte
import Derived.Test.YbulkaaauHas
namespace Go.Proofs.Ybulkaaau.lawS1307BSetCalls
open Go.ChangeShapes Go.WideShapes Go.ChangeAt Go.RowKit
open Go.ChangeMaps (open_string shut_string)
set_option linter.unusedVariables false

theorem own : ownKnob Yba.prog.godebug = none := by kernel_rfl
theorem laidOut : laidOutB Yba.prog = true := by kernel_rfl

/-- WHAT THE WALK IS TOLD OF A SLICE OF INTEGERS THAT CAME IN: it is nil; or it leads to a row of 'cap' cells, the numbers 'zs' (the first 'len' are its elements, the rest its spare room), each fitting its kind. -/
def IsRow (k : IntKind) (w : World) (a : Option Addr) (len cap : Nat) (zs : List Int) : Prop :=
  (a = none ∧ len = 0 ∧ cap = 0 ∧ zs = []) ∨
  ∃ x, a = some x ∧ len ≤ cap ∧ cap ≤ maxLen ∧ zs.length = cap ∧ (∀ i, i < zs.length → w.cell? (x.add i) = some (.int k (zs.getD i 0))) ∧ ∀ n ∈ zs, (Lit.int k n).wf = true

/-! ### STEP 1: THE WALK -/
open Has

theorem table_any (W : World) (a : Option Addr) (len cap : Nat) (zs : List Int) (hz : zs.length = len) (hlen : len ≤ 1024) (HT : Hid (Has.Told W a len zs)) (w : World) (hw : w.heap.size = W.heap.size + 2)
    (h1 : w.heap[W.heap.size]? = some (.cells #[.slice a len cap] 22 (0, 0))) (h2 : w.heap[W.heap.size + 1]? = some (.cells #[.slice none 0 0] 22 (0, 0))) (hb : Below W.heap.size W w) :
    Calls Yba.prog 11 #[.func (Fn.func 9) #[] #[.pointer (some ⟨W.heap.size + 1, 0, none⟩), .pointer (some ⟨W.heap.size, 0, none⟩)]] w fun e w' => e = .returned (.agg (tabTo (has zs) 256)) ∧ Has.Inv W a len cap 256 w' := by
  refine byteClass_9 _ _ (has zs) (Has.Inv W a len cap) w ?_ ?_ ?_
  · refine ⟨?_, ⟨.slice none 0 0, ?_, ?_⟩, hb.alloc (by omega) _, by simp; omega⟩
    · rw [Below.heap_alloc _ _ _ (by omega)]; exact h1
    · rw [Below.heap_alloc _ _ _ (by omega)]; exact h2
    · exact World.ownsRow_nil _ _ _ _
  · intro c w1 w2 hI hg
    rw [hw] at hg
    exact hI.grown hg
  · intro c cls w1 hc hI hbk
    rw [hw] at hbk
    refine (Has.closure W a len cap zs hz hlen HT c cls w1 hc hI hbk).mono ?_
    rintro e w2 ⟨rfl, hI2, hb2⟩
    rw [hw]
    exact ⟨rfl, hI2, hb2⟩

set_option maxHeartbeats 2000000 in
theorem walk_row (a : Option Addr) (len cap : Nat) (zs : List Int) (w : World) (hz : zs.length = len) (hlen : len ≤ 1024) (HT : Hid (Has.Told w a len zs)) :
    Calls Yba.prog 5 #[.slice a len cap] w fun e w' => e = .returned (.bool true) ∧ Below w.heap.size w w' := by
  have hz34 := (zero_of_info (P := Yba.prog) Yba.info34).1
  have HI : Hid ((Yba.prog.info? 34).map (·.size) = some 256) := (zero_of_info (P := Yba.prog) Yba.info34).2
  have hd : ¬ (1024 : Int) < (len : Int) := by omega
  have hd1 : decide ((1024 : Int) < (len : Int)) = false := decide_eq_false hd
  go_enter Yba.func5, Yba.ntmps5
  go_wp2_with fail
  refine (table_any w a len cap zs hz hlen HT _ (by simp) ?_ ?_ ?_).mono ?_
  · rw [Below.heap_alloc _ _ _ (by simp)]; exact heap_alloc_last _ _
  · have := heap_alloc_last (w.alloc (.cells #[.slice a len cap] 22)) (.cells #[.slice none 0 0] 22)
    simpa using this
  · exact ((Below.refl _ _).alloc (Nat.le_refl _) _).alloc (by simp) _
  rintro e w1 ⟨rfl, hI⟩
  have hs1 : w.heap.size + 3 ≤ w1.heap.size := hI.size
  obtain ⟨v, hv, ho⟩ := hI.log
  obtain ⟨g, capL, rfl, hg1, hg2⟩ := ho.form (by omega)
  have l0 : (w1.alloc (.cells (tabTo (has zs) 256) 34)).cell? ⟨w.heap.size + 1, 0, none⟩ = some (.slice (some ⟨g, 0, none⟩) 256 capL) := by
    rw [World.cell?_alloc_past _ _ _ (by omega), cell_of_row w1 _ 0 _ 22 (0, 0) hv]
    simp
  have s0 : (w1.alloc (.cells (tabTo (has zs) 256) 34)).cell? ⟨w.heap.size, 0, none⟩ = some (.slice a len cap) := by
    rw [World.cell?_alloc_past _ _ _ (by omega), cell_of_row w1 _ 0 _ 22 (0, 0) hI.set]
    simp
  have HL : Hid (∀ i, i < 256 → (w1.alloc (.cells (tabTo (has zs) 256) 34)).cell? ⟨g, i, none⟩ = some (.int .u8 (i : Int))) := by
    intro i hi
    rw [World.cell?_alloc_past _ _ _ hg2, ho.cellAt i (by omega)]
    exact firsts_at 256 i hi
  have HC : Hid (∀ i, i < 256 → (w1.alloc (.cells (tabTo (has zs) 256) 34)).cell? ⟨w1.heap.size, i, none⟩ = some (.bool (has zs i))) := by
    intro i hi
    rw [cell_of_row _ _ i _ 34 (0, 0) (heap_alloc_last _ _), tabTo_at _ 256 i hi, if_pos hi]
  have HV : Hid (Below w.heap.size w (w1.alloc (.cells (tabTo (has zs) 256) 34))) := hI.below.alloc (by omega) _
  clear hI hv ho
  go_wp2_with (refine wpList_store_row rfl 34 _ _ rfl w1.heap.size _ rfl rfl 34 zero256 (heap_alloc_last _ _) (by rw [tabTo_size]; exact HI.out) (by rw [tabTo_size, zero256_size]) (tabTo_one _ 256) ?_; rw [World.setRow_alloc_new])
  clear hz34
  go_loopw [6] (fun i wr => ∃ c : Nat, c ≤ 256 ∧ i = .int .i64 c ∧ Hid (∃ m, wr = (w1.alloc (.cells (tabTo (has zs) 256) 34)).drewN m)) (fun i _ => 256 - (intOf i).toNat)
  case atStart => exact ⟨0, by omega, rfl, 0, rfl⟩
  case round =>
    obtain ⟨c, hc, rfl, HM⟩ := hrel
    have HVr : Hid (Below w.heap.size w wr) := by obtain ⟨m, e⟩ := HM.out; rw [e]; exact below_drewN HV.out m
    by_cases hlt : c < 256
    · have hd : (c : Int) < 256 := by omega
      have hd0 : (0 : Int) ≤ (c : Int) := by omega
      have k1 : wr.cell? ⟨g, c, none⟩ = some (.int .u8 (c : Int)) := by obtain ⟨m, e⟩ := HM.out; rw [e]; exact HL.out c hlt
      have k2 : wr.cell? ⟨w1.heap.size, c, none⟩ = some (.bool (has zs c)) := by obtain ⟨m, e⟩ := HM.out; rw [e]; exact HC.out c hlt
      have k3 : wr.cell? ⟨w.heap.size + 1, 0, none⟩ = some (.slice (some ⟨g, 0, none⟩) 256 capL) := by obtain ⟨m, e⟩ := HM.out; rw [e]; exact l0
      have k4 : wr.cell? ⟨w.heap.size, 0, none⟩ = some (.slice a len cap) := by obtain ⟨m, e⟩ := HM.out; rw [e]; exact s0
      have HT2 : Hid (∀ m, Has.Told (wr.drewN m) a len zs) := fun m => HT.out.kept (below_drewN HVr.out m) (Nat.le_refl _)
      have e1 : IntKind.u8.wrap (c : Int) = (c : Int) := by rw [IntKind.wrap_u8]; omega
      clear l0 s0
      go_wp2
      go_quiet ((go_at_call 10; exact Calls.quiet_of_same (has_any a len cap c zs _ hz hlen (HT2.out _))))
      clear e1
      go_wp2
      go_roundw
      case rel => exact ⟨c + 1, by omega, by go_num, by obtain ⟨m, e⟩ := HM.out; rw [e]; exact ⟨m + nq, World.drewN_drewN _ _ _⟩⟩
      case measure => simp [intOf]; omega
    · have hd : ¬ (c : Int) < 256 := by omega
      have hd1 : decide ((c : Int) < 256) = false := decide_eq_false hd
      go_wp2
      go_ret
      exact ⟨rfl, HVr.out⟩

theorem walk_long (a : Option Addr) (len cap : Nat) (w : World) (hlen : 1024 < len) (hm : len ≤ 9223372036854775807) :
    Calls Yba.prog 5 #[.slice a len cap] w fun e w' => e = .returned (.bool true) ∧ Below w.heap.size w w' := by
  go_enter Yba.func5, Yba.ntmps5
  go_wp2
  go_ret
  exact ⟨rfl, (Below.refl _ _).alloc (Nat.le_refl _) _⟩

theorem walk (a0 : Option Addr) (len0 cap0 : Nat) (z0 : List Int) (w : World) (w0 : IsRow .u8 w a0 len0 cap0 z0) :
    Calls Yba.prog 5 #[.slice a0 len0 cap0] w fun e w' => e = .returned (.bool true) ∧ Below w.heap.size w w' := by
  rcases w0 with ⟨rfl, rfl, rfl, rfl⟩ | ⟨x, rfl, hlc, hcm, hzl, hcell, hwf⟩
  · exact walk_row none 0 0 [] w rfl (by omega) (fun h => by omega)
  · by_cases hl : len0 ≤ 1024
    · refine walk_row (some x) len0 cap0 (z0.take len0) w (by rw [List.length_take]; omega) hl (fun hp => ?_)
      obtain ⟨b, off, rfl, hc⟩ := ints_at hcell (by omega)
      refine ⟨b, off, rfl, World.block_lt_of_cell? w _ (hc 0 (by omega)), fun j hj => ?_⟩
      have e : (z0.take len0).getD j 0 = z0.getD j 0 := by simp [List.getD, hj]
      rw [e]
      exact hc j (by omega)
    · exact walk_long _ _ _ w (by omega) (by unfold maxLen at hcm; omega)

/-! ### THE ROW's STEP: WRITTEN OUT: LEAVE IT -/
set_option maxRecDepth 100000 in
theorem lifted (os : Os) (started : os.Started) (H : Type) (enc : TypeId × Value → H) :
    ReturnsInHanded {} Yba.checked os 5 .any (Rows.lawS1307BSetCallsSpec.pre6 enc Yba.prog Yba.f5 Rows.lawS1307BSetCallsRow.domain false) (Rows.lawS1307BSetCallsSpec.post enc Yba.prog Yba.f5 false true false false) := by
  refine returnsInHanded_of_change (C := Yba.checked) own started (by kernel_rfl) Yba.func5
    (ChangeSpec.witness6 (enc := enc) (C := Yba.checked) false ⟨#[], #[.slice none 0 0], []⟩ 8 (by kernel_rfl) (by kernel_rfl) (by kernel_rfl) (by kernel_rfl)) ?_
  intro W base args ds gs before hval0 hW hcnd _
  have hval : ∀ (j : Nat) t v, Yba.f5.params[j]? = some t → args[j]? = some v → Value.okWide Yba.prog W .any base t v := hval0
  have hW' := hW
  obtain ⟨p, q, hA0, hV, rfl, hfz, hnd⟩ := hW
  have hA : DataW.TrodAll enc Yba.prog W 0 (fun _ => true) true Yba.f5.params.toList args.toList ds p := hA0
  rw [Yba.params5] at hA hval
  obtain ⟨v0, vs0, d0, ds0, p0, q0, hargs, rfl, rfl, h0, r0⟩ := trodAll_cons hA
  obtain ⟨rfl, rfl, rfl⟩ := trodAll_nil r0
  obtain rfl : args = #[v0] := by cases args; simp_all
  obtain ⟨rfl, rfl⟩ := trodVars_none hV
  obtain ⟨a0, len0, cap0, rfl⟩ := okWide_slice Yba.underlying22 (hval 0 22 v0 rfl rfl)
  have k0 := h0
  have lt0 : ∀ x ∈ p0, x.block < W.heap.size := by obtain ⟨m, hm⟩ := k0; exact DataW.trod_lt m _ _ _ hm
  obtain ⟨z0, w0⟩ : ∃ zs, IsRow .u8 W a0 len0 cap0 zs := by
    obtain ⟨fuel, hf⟩ := h0
    rcases open_ints Yba.underlying22 Yba.underlying5 (by kernel_rfl) hf with ⟨hcs, _⟩ | ⟨x, l, c, zs, hcs, _, hl, hm, hz, _, hcell, hwz⟩
    · simp [Value.cells] at hcs
      obtain ⟨rfl, rfl, rfl⟩ := hcs
      exact ⟨[], .inl ⟨rfl, rfl, rfl, rfl⟩⟩
    · simp [Value.cells] at hcs
      obtain ⟨rfl, rfl, rfl⟩ := hcs
      exact ⟨zs, .inr ⟨_, rfl, hl, hm, by simpa using hz, hcell, hwz⟩⟩
  clear hA0 hval0
  refine (walk a0 len0 cap0 z0 W w0).mono fun e W' ⟨he, bel⟩ => ?_
  subst he
  exact ⟨_, rfl, _, _, _, [], _, [], hW', trodAll_mk1 (shut_bool Yba.underlying4 _), (trodAll_cons_mk (Below.trod laidOut (by kernel_rfl) (of_decide_eq_true (by kernel_rfl)) k0 bel lt0) trodAll_mk0), rfl, bel.frame _, fun h => by cases h⟩

theorem over : Rows.lawS1307BSetCallsRow.holds Yba.pinned (OpenSpec.ofChange Rows.lawS1307BSetCallsSpec) :=
  OpenClaim.holds_of_wide 5 Yba.f5 rfl rfl rfl rfl rfl rfl rfl ⟨rfl, rfl, rfl, rfl, rfl⟩ rfl rfl rfl rfl rfl (by kernel_rfl) Yba.func5 (by kernel_rfl)
    (of_decide_eq_true (by kernel_rfl)) (by unfold Func.isWrapper; first | (rw [if_pos (by decide +kernel)]; kernel_rfl) | (rw [if_neg (by decide +kernel)]; exact ⟨rfl, rfl⟩))
    (fun os started H enc _ => lifted os started H enc)

/-- ████ THE STATEMENT ████ -/
theorem proved : Rows.LawS1307BSetCallsSaid := over
#print axioms proved
end Go.Proofs.Ybulkaaau.lawS1307BSetCalls
