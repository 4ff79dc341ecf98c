/-
  THE PROOF OF 'Rows.LawS1307BTableSaid'. The frame is made after the shell of its sister (LawS1307BSetCalls); the parameter is an array of 256 bools by value.
-/
import Derived.Test.YbulkaaauRows
import Derived.WalkKit
import Derived.ProofKit
import Derived.OpenShut
import Derived.ShutString
import Derived.ChangeOld
import Derived.Below
import Derived.WalkSmall
import Derived.Deep.QuietTactic
import Derived.BigQuiet
import Derived.Test.YbulkaaauByte
namespace Go.Proofs.Ybulkaaau.lawS1307BTable
open Go.ChangeShapes Go.WideShapes Go.ChangeAt Go.RowKit
set_option linter.unusedVariables false

theorem own : ownKnob Yba.prog.godebug = none := by kernel_rfl
theorem laidOut : laidOutB Yba.prog = true := by kernel_rfl

/-! ### STEP 1: THE WALK -/
/-- The function literal: it counts, and looks the byte up. -/
theorem closure (c : Nat) (hc : c < 256) (b0 b1 n : Nat) (cs : Array Value) (bv : Bool) (w : World) (h1 : w.heap[b1]? = some (.cells #[.int .i64 n] 3 (0, 0))) (h0 : w.heap[b0]? = some (.cells cs 34 (0, 0)))
    (hcs : cs[c]? = some (.bool bv)) (hn : n ≤ 1000) (hne : b0 ≠ b1) :
    Calls Yba.prog 12 #[.int .u8 c, .pointer (some ⟨b1, 0, none⟩), .pointer (some ⟨b0, 0, none⟩)] w fun e w' => e = .returned (.bool bv) ∧ w' = w.setCell ⟨b1, 0, none⟩ (.int .i64 ((n : Int) + 1)) := by
  have c1 : w.cell? ⟨b1, 0, none⟩ = some (.int .i64 n) := (cell_of_row w b1 0 _ 3 (0, 0) h1).trans (by simp)
  have f1 : w.frozen? ⟨b1, 0, none⟩ = false := frozen_of_row w b1 0 _ 3 h1
  have c2 : (w.setCell ⟨b1, 0, none⟩ (.int .i64 ((n : Int) + 1))).cell? ⟨b0, c, none⟩ = some (.bool bv) := by
    rw [World.cell?_of_block (w := w) (heap_setCell_other w ⟨b1, 0, none⟩ b0 _ hne)]
    exact (cell_of_row w b0 c _ 34 (0, 0) h0).trans hcs
  have hd : (c : Int) < 256 := by omega
  have hd0 : (0 : Int) ≤ (c : Int) := by omega
  clear h1 h0 hcs
  go_enter Yba.func12, Yba.ntmps12
  go_wp2
  go_ret
  exact ⟨rfl, rfl⟩

/-- What holds behind c calls. -/
structure Inv (W : World) (cs : Array Value) (c : Nat) (w : World) : Prop where
  calls : w.heap[W.heap.size + 1]? = some (.cells #[.int .i64 c] 3 (0, 0))
  tab : w.heap[W.heap.size]? = some (.cells cs 34 (0, 0))
  below : Below W.heap.size W w
  size : W.heap.size + 2 ≤ w.heap.size

theorem Inv.grown {W : World} {cs : Array Value} {c : Nat} {w w' : World} (h : Inv W cs c w) (g : Nat) (hg : W.heap.size + 2 ≤ g) (hw : w.grownBy w' (some g)) : Inv W cs c w' := by
  have hs := h.size
  refine ⟨?_, ?_, h.below.grown hw (by omega) (fun k hk => by simp at hk; omega), by have := hw.size; omega⟩
  · rw [hw.block _ (by omega) (by simp; omega)]; exact h.calls
  · rw [hw.block _ (by omega) (by simp; omega)]; exact h.tab

theorem Inv.call {W : World} {cs : Array Value} {c : Nat} {w : World} (h : Inv W cs c w) : Inv W cs (c + 1) (w.setCell ⟨W.heap.size + 1, 0, none⟩ (.int .i64 ((c : Int) + 1))) := by
  have hs := h.size
  refine ⟨?_, ?_, h.below.setCell (by simp) _, by simpa [World.setCell] using hs⟩
  · rw [heap_setCell_same w _ 0 _ 3 _ h.calls]
    simp
  · rw [heap_setCell_other w _ _ _ (by simp)]; exact h.tab

theorem table_any (W : World) (cs : Array Value) (f : Nat → Bool) (hcs : ∀ j, j < 256 → cs[j]? = some (.bool (f j))) (w : World) (hw : w.heap.size = W.heap.size + 2) (h : Inv W cs 0 w) :
    Calls Yba.prog 11 #[.func (Fn.func 12) #[] #[.pointer (some ⟨W.heap.size + 1, 0, none⟩), .pointer (some ⟨W.heap.size, 0, none⟩)]] w fun e w' => e = .returned (.agg (tabTo f 256)) ∧ Inv W cs 256 w' := by
  refine byteClass_12 _ _ f (Inv W cs) w ?_ ?_ ?_
  · have : w.grownBy (w.alloc (.cells zero256 34)) (some (W.heap.size + 2)) := World.grownBy_alloc _ _ _
    exact h.grown _ (Nat.le_refl _) this
  · intro c w1 w2 hI hg
    exact hI.grown _ (by omega) hg
  · intro c cls w1 hc hI hb
    refine (closure c hc _ _ c cs (f c) w1 hI.calls hI.tab (hcs c hc) (by omega) (by omega)).mono ?_
    rintro e w2 ⟨rfl, rfl⟩
    refine ⟨rfl, hI.call, ?_⟩
    rw [heap_setCell_other _ _ _ _ (by simp; omega)]
    exact hb

set_option maxHeartbeats 1000000 in
theorem walk_at (cs : Array Value) (f : Nat → Bool) (hcs : Hid (∀ j, j < 256 → cs[j]? = some (.bool (f j)))) (w : World) :
    Calls Yba.prog 6 #[.agg cs] w fun e w' => e = .returned (.bool true) ∧ Below w.heap.size w w' := by
  have hz := (zero_of_info (P := Yba.prog) Yba.info34).1
  have HI : Hid ((Yba.prog.info? 34).map (·.size) = some 256) := (zero_of_info (P := Yba.prog) Yba.info34).2
  have H0 : Hid (Inv w cs 0 ((w.alloc (.cells cs 34)).alloc (.cells #[.int .i64 0] 3))) := by
    refine ⟨?_, ?_, ((Below.refl _ _).alloc (Nat.le_refl _) _).alloc (by simp) _, by simp⟩
    · have := heap_alloc_last (w.alloc (.cells cs 34)) (.cells #[.int .i64 0] 3)
      simpa using this
    · rw [Below.heap_alloc _ _ _ (by simp)]; exact heap_alloc_last _ _
  go_enter Yba.func6, Yba.ntmps6
  go_wp2_with fail
  refine (table_any w cs f hcs.out _ (by simp) H0.out).mono ?_
  rintro e w1 ⟨rfl, hI⟩
  have hs1 : w.heap.size + 2 ≤ w1.heap.size := hI.size
  have k0 : (w1.alloc (.cells (tabTo f 256) 34)).cell? ⟨w.heap.size + 1, 0, none⟩ = some (.int .i64 256) := by
    rw [World.cell?_alloc_past _ _ _ (by omega), cell_of_row w1 _ 0 _ 3 (0, 0) hI.calls]
    simp
  have HT : Hid (∀ i, i < 256 → (w1.alloc (.cells (tabTo f 256) 34)).cell? ⟨w.heap.size, i, none⟩ = some (.bool (f i))) := by
    intro i hi
    rw [World.cell?_alloc_past _ _ _ (by omega), cell_of_row w1 _ i _ 34 (0, 0) hI.tab]
    exact hcs.out i hi
  have HC : Hid (∀ i, i < 256 → (w1.alloc (.cells (tabTo f 256) 34)).cell? ⟨w1.heap.size, i, none⟩ = some (.bool (f i))) := by
    intro i hi
    rw [cell_of_row _ _ i _ 34 (0, 0) (heap_alloc_last _ _), tabTo_at f 256 i hi, if_pos hi]
  have HV : Hid (Below w.heap.size w (w1.alloc (.cells (tabTo f 256) 34))) := hI.below.alloc (by omega) _
  clear hI
  go_wp2_with (refine wpList_store_row rfl 34 _ _ rfl w1.heap.size _ rfl rfl 34 zero256 (heap_alloc_last _ _) (by rw [tabTo_size]; exact HI.out) (by rw [tabTo_size, zero256_size]) (tabTo_one f 256) ?_; rw [World.setRow_alloc_new])
  clear hz
  go_loopw [6] (fun i wr => ∃ c : Nat, c ≤ 256 ∧ i = .int .i64 c ∧ ∃ m, wr = (w1.alloc (.cells (tabTo f 256) 34)).drewN m) (fun i _ => 256 - (intOf i).toNat)
  case atStart => exact ⟨0, by omega, rfl, 0, rfl⟩
  case round =>
    obtain ⟨c, hc, rfl, m, rfl⟩ := hrel
    by_cases hlt : c < 256
    · have hd : (c : Int) < 256 := by omega
      have hd0 : (0 : Int) ≤ (c : Int) := by omega
      have k1 := HT.out c hlt
      have k2 := HC.out c hlt
      go_wp2
      go_quiet (fail)
      go_wp2
      go_roundw
      case rel => exact ⟨c + 1, by omega, by go_num, m + nq, rfl⟩
      case measure => simp [intOf]; omega
    · have hd : ¬ (c : Int) < 256 := by omega
      have hd1 : decide ((c : Int) < 256) = false := decide_eq_false hd
      go_wp2
      go_ret
      exact ⟨rfl, below_drewN HV.out m⟩

/-! ### THE ROW's STEP -/
/-- An array of 256 bools that came in, opened. -/
theorem open_bools {H : Type} {enc : TypeId × Value → H} {W : World} {v : Value} {d : DataW H} {p : List MemPlace} {base : Nat} (hv : Value.okWide Yba.prog W .any base 34 v) (h : DataW.Trod enc Yba.prog W 0 (fun _ => true) true 34 v d p) :
    ∃ (cs : Array Value) (f : Nat → Bool), v = .agg cs ∧ ∀ j, j < 256 → cs[j]? = some (.bool (f j)) := by
  unfold Value.okWide at hv
  rw [Yba.underlying34] at hv
  obtain ⟨cs, rfl, _, _⟩ := hv
  obtain ⟨fuel, hf⟩ := h
  obtain ⟨xs, m, _, _, _, hl, hel⟩ := DataW.trod_array Yba.underlying34 hf
  have c4 : Yba.prog.cellsOf 4 = 1 := by kernel_rfl
  rw [c4] at hel
  have hb : ∀ j, j < 256 → ∃ b, cs[j]? = some (.bool b) := by
    intro j hj
    have e := hel j hj
    rw [List.getElem?_eq_getElem (by omega)] at e
    obtain ⟨b, hb, _⟩ := DataW.trod_bool Yba.underlying4 e
    refine ⟨b, ?_⟩
    have e2 : ((cs.toList.drop (j * 1)).take 1)[0]? = some (.bool b) := by
      show ((Value.cells (.agg cs)).toList.drop (j * 1) |>.take 1)[0]? = _
      rw [hb]; rfl
    simpa using e2
  refine ⟨cs, fun j => match cs[j]? with | some (.bool b) => b | _ => false, rfl, fun j hj => ?_⟩
  obtain ⟨b, e⟩ := hb j hj
  simp only [e]

set_option maxRecDepth 100000 in
theorem lifted (os : Os) (started : os.Started) (H : Type) (enc : TypeId × Value → H) :
    ReturnsInHanded {} Yba.checked os 6 .any (Rows.lawS1307BTableSpec.pre6 enc Yba.prog Yba.f6 Rows.lawS1307BTableRow.domain false) (Rows.lawS1307BTableSpec.post enc Yba.prog Yba.f6 false true false false) := by
  refine returnsInHanded_of_change (C := Yba.checked) own started (by kernel_rfl) Yba.func6
    (ChangeSpec.witness6 (enc := enc) (C := Yba.checked) false ⟨#[], #[.agg zero256], []⟩ 8 (by kernel_rfl) (by kernel_rfl) (by kernel_rfl) (by kernel_rfl)) ?_
  intro W base args ds gs before hval0 hW hcnd _
  have hval : ∀ (j : Nat) t v, Yba.f6.params[j]? = some t → args[j]? = some v → Value.okWide Yba.prog W .any base t v := hval0
  have hW' := hW
  obtain ⟨p, q, hA0, hV, rfl, hfz, hnd⟩ := hW
  have hA : DataW.TrodAll enc Yba.prog W 0 (fun _ => true) true Yba.f6.params.toList args.toList ds p := hA0
  rw [Yba.params6] at hA hval
  obtain ⟨v0, vs0, d0, ds0, p0, q0, hargs, rfl, rfl, h0, r0⟩ := trodAll_cons hA
  obtain ⟨rfl, rfl, rfl⟩ := trodAll_nil r0
  obtain rfl : args = #[v0] := by cases args; simp_all
  obtain ⟨rfl, rfl⟩ := trodVars_none hV
  have k0 := h0
  have lt0 : ∀ x ∈ p0, x.block < W.heap.size := by obtain ⟨m, hm⟩ := k0; exact DataW.trod_lt m _ _ _ hm
  obtain ⟨cs, f, rfl, hcs⟩ := open_bools (hval 0 34 v0 rfl rfl) h0
  clear hA0 hval0
  refine (walk_at cs f hcs W).mono fun e W' ⟨he, bel⟩ => ?_
  subst he
  exact ⟨_, rfl, _, _, _, [], _, [], hW', trodAll_mk1 (shut_bool Yba.underlying4 _), (trodAll_cons_mk (Below.trod laidOut (by kernel_rfl) (of_decide_eq_true (by kernel_rfl)) k0 bel lt0) trodAll_mk0), rfl, bel.frame _, fun h => by cases h⟩

theorem over : Rows.lawS1307BTableRow.holds Yba.pinned (OpenSpec.ofChange Rows.lawS1307BTableSpec) :=
  OpenClaim.holds_of_wide 6 Yba.f6 rfl rfl rfl rfl rfl rfl rfl ⟨rfl, rfl, rfl, rfl, rfl⟩ rfl rfl rfl rfl rfl (by kernel_rfl) Yba.func6 (by kernel_rfl)
    (of_decide_eq_true (by kernel_rfl)) (by unfold Func.isWrapper; first | (rw [if_pos (by decide +kernel)]; kernel_rfl) | (rw [if_neg (by decide +kernel)]; exact ⟨rfl, rfl⟩))
    (fun os started H enc _ => lifted os started H enc)

/-- ████ THE STATEMENT ████ -/
theorem proved : Rows.LawS1307BTableSaid := over
#print axioms proved
end Go.Proofs.Ybulkaaau.lawS1307BTable
