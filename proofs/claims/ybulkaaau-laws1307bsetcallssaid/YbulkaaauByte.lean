/-
  THE WALK of byteClass, over whatever closure: 'in' is one of the two laws' function literals (9: LawS1307BSetCalls$1; 12: LawS1307BTable$1).
-/
import Derived.Test.YbulkaaauRows
import Derived.WalkKit
import Derived.WalkSpells
import Derived.Deep.WholeRow
import Derived.Maps.AppendAt
namespace Go.Proofs.Ybulkaaau
open Go.RowKit

theorem hide {p : Prop} (h : p) : Hid p := h

/-- A table of 256 bools: the first c are f's answers, the rest false. -/
def tabTo (f : Nat → Bool) (c : Nat) : Array Value := ((List.range 256).map fun j => Value.bool (if j < c then f j else false)).toArray
def zero256 : Array Value := Array.replicate 256 (Value.bool false)

theorem tabTo_size (f : Nat → Bool) (c : Nat) : (tabTo f c).size = 256 := by simp [tabTo]
theorem zero256_size : zero256.size = 256 := by simp [zero256]
theorem tabTo_at (f : Nat → Bool) (c j : Nat) (hj : j < 256) : (tabTo f c)[j]? = some (.bool (if j < c then f j else false)) := by
  simp [tabTo, List.getElem?_range hj]
theorem tabTo_zero (f : Nat → Bool) : tabTo f 0 = zero256 := by
  apply Array.ext_getElem?
  intro j
  by_cases hj : j < 256
  · rw [tabTo_at f 0 j hj]; simp [zero256, hj]
  · rw [Array.getElem?_eq_none (by rw [tabTo_size]; omega), Array.getElem?_eq_none (by rw [zero256_size]; omega)]
theorem tabTo_set (f : Nat → Bool) (c : Nat) (hc : c < 256) : (tabTo f c).setIfInBounds c (.bool (f c)) = tabTo f (c + 1) := by
  apply Array.ext_getElem?
  intro j
  by_cases hj : j < 256
  · rw [tabTo_at f (c + 1) j hj, Array.getElem?_setIfInBounds, tabTo_size]
    by_cases e : c = j
    · subst e; simp [hc]
    · rw [if_neg e, tabTo_at f c j hj]
      have : (j < c) = (j < c + 1) := by apply propext; omega
      simp [this]
  · rw [Array.getElem?_eq_none (by simp [tabTo_size]; omega), Array.getElem?_eq_none (by rw [tabTo_size]; omega)]
theorem tabTo_one (f : Nat → Bool) (c : Nat) : (tabTo f c).all (·.oneCell') = true := by
  rw [Array.all_eq_true_iff_forall_mem]
  intro v hv
  simp [tabTo] at hv
  obtain ⟨j, _, rfl⟩ := hv
  rfl

theorem Yba.info34 : (Yba.prog.info? 34).map (fun i => (i.zero, i.size)) = some (some (.agg zero256), 256) := by kernel_rfl

theorem grown_setCell (w : World) (b o : Nat) (v : Value) : w.grownBy (w.setCell ⟨b, o, none⟩ v) (some b) :=
  ⟨rfl, rfl, rfl, by simp [World.setCell], fun k _ hk => heap_setCell_other w ⟨b, o, none⟩ k v (fun e => hk (by simp [e]))⟩
theorem grown_setRow (w : World) (b : Nat) (cs : Array Value) : w.grownBy (w.setRow b cs) (some b) :=
  ⟨rfl, rfl, rfl, by simp [World.setRow], fun k _ hk => setRow_other w b k cs (fun e => hk (by simp [e]))⟩

set_option maxHeartbeats 1000000 in
theorem byteClass_12 (p1 p2 : Value) (f : Nat → Bool) (I : Nat → World → Prop) (w0 : World)
    (h0 : Hid (I 0 (w0.alloc (.cells zero256 34))))
    (hgrow : Hid (∀ c w w', I c w → w.grownBy w' (some w0.heap.size) → I c w'))
    (hcl : Hid (∀ (c : Nat) cls w, c < 256 → I c w → w.heap[w0.heap.size]? = some (.cells cls 34 (0, 0)) → Calls Yba.prog 12 #[.int .u8 c, p1, p2] w fun e w' => e = .returned (.bool (f c)) ∧ I (c + 1) w' ∧ w'.heap[w0.heap.size]? = some (.cells cls 34 (0, 0)))) :
    Calls Yba.prog 11 #[.func (Fn.func 12) #[] #[p1, p2]] w0 fun e w' => e = .returned (.agg (tabTo f 256)) ∧ I 256 w' := by
  have hz := (zero_of_info (P := Yba.prog) Yba.info34).1
  have HI : Hid ((Yba.prog.info? 34).map (·.size) = some 256) := (zero_of_info (P := Yba.prog) Yba.info34).2
  go_enter Yba.func11, Yba.ntmps11
  go_wp2
  go_loopw [4] (fun i wr => ∃ c : Nat, c ≤ 256 ∧ i = .int .i64 c ∧ Hid (I c wr) ∧ Hid (wr.heap[w0.heap.size]? = some (.cells (tabTo f c) 34 (0, 0)))) (fun i _ => 256 - (intOf i).toNat)
  case atStart => exact ⟨0, by omega, rfl, h0, by show _ = _; rw [tabTo_zero]; exact heap_alloc_last _ _⟩
  case round =>
    obtain ⟨c, hc, rfl, HC, HB⟩ := hrel
    clear hz
    by_cases hlt : c < 256
    · have hd : (c : Int) < 256 := by omega
      have hd0 : (0 : Int) ≤ (c : Int) := by omega
      go_wp2_with (go_at_call 12; refine (hcl.out c _ _ hlt HC.out HB.out).mono ?_; rintro e w1 ⟨rfl, hI, hb⟩; have hcell := (cell_of_row w1 w0.heap.size c _ 34 (0, 0) hb).trans (tabTo_at f c c hlt); have hfr := frozen_of_row w1 w0.heap.size c _ 34 hb; have HB1 := hide hb; have HI1 := hide hI; clear hb hI)
      go_roundw
      case rel => exact ⟨c + 1, by omega, by go_num, hgrow.out _ _ _ HI1.out (grown_setCell _ _ _ _), by show _ = _; rw [heap_setCell_same _ _ _ _ _ _ HB1.out, tabTo_set f c hlt]⟩
      case measure => simp [intOf]; omega
    · have hce : c = 256 := by omega
      subst hce
      go_wp2_with (first | (refine wpList_load_row rfl 34 _ rfl w0.heap.size rfl 34 _ (0, 0) _ HB.out Yba.underlying34 rfl (by rw [tabTo_size]; exact HI.out) ?_) | (refine wpList_store_row rfl 34 _ _ rfl w0.heap.size _ rfl rfl 34 _ HB.out (by rw [tabTo_size]; exact HI.out) rfl (tabTo_one f 256) ?_))
      refine bodyPost_ret (v := .agg (tabTo f 256)) ?_ rfl ⟨rfl, hgrow.out _ _ _ HC.out (grown_setRow _ _ _)⟩
      exact results_cell_row rfl _ _ w0.heap.size 34 _ (0, 0) _ rfl (setRow_heap _ _ _ _ 34 (0, 0) HB.out) Yba.underlying34 rfl (by rw [tabTo_size]; exact HI.out)

set_option maxHeartbeats 1000000 in
theorem byteClass_9 (p1 p2 : Value) (f : Nat → Bool) (I : Nat → World → Prop) (w0 : World)
    (h0 : Hid (I 0 (w0.alloc (.cells zero256 34))))
    (hgrow : Hid (∀ c w w', I c w → w.grownBy w' (some w0.heap.size) → I c w'))
    (hcl : Hid (∀ (c : Nat) cls w, c < 256 → I c w → w.heap[w0.heap.size]? = some (.cells cls 34 (0, 0)) → Calls Yba.prog 9 #[.int .u8 c, p1, p2] w fun e w' => e = .returned (.bool (f c)) ∧ I (c + 1) w' ∧ w'.heap[w0.heap.size]? = some (.cells cls 34 (0, 0)))) :
    Calls Yba.prog 11 #[.func (Fn.func 9) #[] #[p1, p2]] w0 fun e w' => e = .returned (.agg (tabTo f 256)) ∧ I 256 w' := by
  have hz := (zero_of_info (P := Yba.prog) Yba.info34).1
  have HI : Hid ((Yba.prog.info? 34).map (·.size) = some 256) := (zero_of_info (P := Yba.prog) Yba.info34).2
  go_enter Yba.func11, Yba.ntmps11
  go_wp2
  go_loopw [4] (fun i wr => ∃ c : Nat, c ≤ 256 ∧ i = .int .i64 c ∧ Hid (I c wr) ∧ Hid (wr.heap[w0.heap.size]? = some (.cells (tabTo f c) 34 (0, 0)))) (fun i _ => 256 - (intOf i).toNat)
  case atStart => exact ⟨0, by omega, rfl, h0, by show _ = _; rw [tabTo_zero]; exact heap_alloc_last _ _⟩
  case round =>
    obtain ⟨c, hc, rfl, HC, HB⟩ := hrel
    clear hz
    by_cases hlt : c < 256
    · have hd : (c : Int) < 256 := by omega
      have hd0 : (0 : Int) ≤ (c : Int) := by omega
      go_wp2_with (go_at_call 9; refine (hcl.out c _ _ hlt HC.out HB.out).mono ?_; rintro e w1 ⟨rfl, hI, hb⟩; have hcell := (cell_of_row w1 w0.heap.size c _ 34 (0, 0) hb).trans (tabTo_at f c c hlt); have hfr := frozen_of_row w1 w0.heap.size c _ 34 hb; have HB1 := hide hb; have HI1 := hide hI; clear hb hI)
      go_roundw
      case rel => exact ⟨c + 1, by omega, by go_num, hgrow.out _ _ _ HI1.out (grown_setCell _ _ _ _), by show _ = _; rw [heap_setCell_same _ _ _ _ _ _ HB1.out, tabTo_set f c hlt]⟩
      case measure => simp [intOf]; omega
    · have hce : c = 256 := by omega
      subst hce
      go_wp2_with (first | (refine wpList_load_row rfl 34 _ rfl w0.heap.size rfl 34 _ (0, 0) _ HB.out Yba.underlying34 rfl (by rw [tabTo_size]; exact HI.out) ?_) | (refine wpList_store_row rfl 34 _ _ rfl w0.heap.size _ rfl rfl 34 _ HB.out (by rw [tabTo_size]; exact HI.out) rfl (tabTo_one f 256) ?_))
      refine bodyPost_ret (v := .agg (tabTo f 256)) ?_ rfl ⟨rfl, hgrow.out _ _ _ HC.out (grown_setRow _ _ _)⟩
      exact results_cell_row rfl _ _ w0.heap.size 34 _ (0, 0) _ rfl (setRow_heap _ _ _ _ 34 (0, 0) HB.out) Yba.underlying34 rfl (by rw [tabTo_size]; exact HI.out)

end Go.Proofs.Ybulkaaau
