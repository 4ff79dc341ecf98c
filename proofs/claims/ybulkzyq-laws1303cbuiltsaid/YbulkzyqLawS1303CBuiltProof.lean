/-
  THE PROOF OF 'Rows.LawS1303CBuiltSaid'. The frame is the shell's (proof-skeleton.mjs); the walk is ours.
-/
import Derived.Test.YbulkzyqRows
import Derived.WalkKit
import Derived.ProofKit
import Derived.OpenShut
import Derived.ShutString
import Derived.ChangeOld
import Derived.Below
import Derived.Laws.IdiomStrings
import Derived.Test.YbulkzyqWalks
namespace Go.Proofs.Ybulkzyq.lawS1303CBuilt
open Go.ChangeShapes Go.WideShapes Go.ChangeAt Go.RowKit
open Go.ChangeMaps (open_string shut_string)
set_option linter.unusedVariables false

theorem own : ownKnob Yba.prog.godebug = none := by kernel_rfl
theorem laidOut : laidOutB Yba.prog = true := by kernel_rfl

/-- WHAT THE WALK IS TOLD OF A SLICE OF INTEGERS THAT CAME IN: it is nil; or it leads to a row of 'cap' cells, the numbers 'zs' (the first 'len' are its elements, the rest its spare room), each fitting its kind. -/
def IsRow (k : IntKind) (w : World) (a : Option Addr) (len cap : Nat) (zs : List Int) : Prop :=
  (a = none ∧ len = 0 ∧ cap = 0 ∧ zs = []) ∨
  ∃ x, a = some x ∧ len ≤ cap ∧ cap ≤ maxLen ∧ zs.length = cap ∧ (∀ i, i < zs.length → w.cell? (x.add i) = some (.int k (zs.getD i 0))) ∧ ∀ n ∈ zs, (Lit.int k n).wf = true

/-! ### STEP 1: THE WALK -/
theorem Yba.info5 : (Yba.prog.info? 5).map (fun i => (i.zero, i.size, i.bytes)) = some (some (.int .u8 0), 1, 1) := by kernel_rfl

/-- 'allDigits', its answer a letter. -/
theorem allDigits_at (s : ByteArray) (b : Bool) (hs : s.size ≤ maxLen) (h : Hid (Plain.allB s.data.toList = b)) (w : World) :
    Calls Yba.prog 6 #[.string s] w fun e w' => e = .returned (.bool b) ∧ w' = w := by
  have g := allDigits_any s w hs
  rw [h.out] at g
  exact g

/-- What the walk is told of the picks: behind a length above 0 they lie at a plain address. -/
def Told (w : World) (a : Option Addr) (len : Nat) (zs : List Int) : Prop :=
  0 < len → ∃ b off, a = some ⟨b, off, none⟩ ∧ b < w.heap.size ∧ ∀ j, j < len → w.cell? ⟨b, off + j, none⟩ = some (.int .u8 (zs.getD j 0)) ∧ 0 ≤ zs.getD j 0 ∧ zs.getD j 0 ≤ 255

/-- The loop's relation. -/
structure Rel (w : World) (zs : List Int) (len k : Nat) (wt : Bool) (wr : World) : Prop where
  own : wr.ownsRow w.heap.size 5 1 (.slice (some ⟨w.heap.size, 0, none⟩) k len) k ((Plain.gath (zs.take k)).map fun c => .int .u8 (c.toNat : Int))
  want : wt = (decide (0 < len) && Plain.good (zs.take k))
  below : Below w.heap.size w wr

theorem tab_at (z : Int) (hz : 0 ≤ z) (h : (z % 12).toNat < (⟨#[48, 49, 50, 51, 52, 53, 54, 55, 56, 57, 47, 58]⟩ : ByteArray).size) :
    (⟨#[48, 49, 50, 51, 52, 53, 54, 55, 56, 57, 47, 58]⟩ : ByteArray)[(z % 12).toNat] = Plain.tab (z.toNat % 12) := by
  have all : ∀ j : Fin 12, (⟨#[48, 49, 50, 51, 52, 53, 54, 55, 56, 57, 47, 58]⟩ : ByteArray)[j.val]'(j.isLt) = Plain.tab j.val := by decide
  have e : (z % 12).toNat = z.toNat % 12 := by omega
  have g := all ⟨z.toNat % 12, Nat.mod_lt _ (by omega)⟩
  rw [← g]
  congr 1

theorem rel_step {w : World} {zs : List Int} {len k : Nat} {wt : Bool} {wr w1 : World} {o : Obj} {z : Int} (R : Rel w zs len k wt wr) (hz : zs.length = len) (hlt : k < len) (h0 : 0 ≤ z) (hzk : z = zs.getD k 0) (wt' : Bool) (hw : wt' = (wt && decide (z % 12 < 10)))
    (h : (z % 12).toNat < (⟨#[48, 49, 50, 51, 52, 53, 54, 55, 56, 57, 47, 58]⟩ : ByteArray).size)
    (hown : w1.ownsRow w.heap.size 5 1 (.slice (some ⟨w.heap.size, 0, none⟩) (k + 1) len) (k + 1) ((Plain.gath (zs.take k)).map (fun c => .int .u8 (c.toNat : Int)) ++ [.int .u8 (((⟨#[48, 49, 50, 51, 52, 53, 54, 55, 56, 57, 47, 58]⟩ : ByteArray)[(z % 12).toNat].toNat : Nat) : Int)]))
    (hgrow : (wr.alloc o).grownBy w1 (some w.heap.size)) : Rel w zs len (k + 1) wt' w1 := by
  have ht := Plain.take_one zs k (by omega)
  rw [tab_at z h0 h] at hown
  refine ⟨?_, ?_, ?_⟩
  · rw [ht, Plain.gath_snoc, List.map_append, ← hzk]
    exact hown
  · have e : decide (z % 12 < 10) = decide (z.toNat % 12 < 10) := by rw [Bool.eq_iff_iff]; simp; omega
    rw [hw, R.want, ht, Plain.good_snoc, ← hzk, Bool.and_assoc, e]
  · have hs := R.below.size
    exact (R.below.alloc hs o).grown hgrow (by simp; omega) (fun j hj => by simp at hj; omega)

/-- 'string(buf)'. -/
theorem rel_string {w : World} {zs : List Int} {k : Nat} {wt : Bool} {wr : World} (R : Rel w zs k k wt wr) :
    (convert 24 9 (.slice (some ⟨w.heap.size, 0, none⟩) k k)).run Yba.prog wr = .ok (.string ⟨(Plain.gath (zs.take k)).toArray⟩) wr := by
  have hl : (Plain.gath (zs.take k)).length = k := by have := R.own.1; simpa using this
  have h := run_convert_bytes_back (P := Yba.prog) wr 24 9 5 ⟨w.heap.size, 0, none⟩ k (Plain.gath (zs.take k)) Yba.underlying24 Yba.underlying5 Yba.underlying9 (fun j hj => by
    refine R.own.cells (g := w.heap.size) rfl j _ ?_
    simp [List.getElem?_eq_getElem hj])
  rw [hl] at h
  exact h

set_option maxHeartbeats 1000000 in
theorem walk_row (a : Option Addr) (len cap : Nat) (zs : List Int) (w : World) (hz : zs.length = len) (hlen : len ≤ 1024) (HT : Hid (Told w a len zs)) :
    Calls Yba.prog 4 #[.slice a len cap] w fun e w' => e = .returned (.bool true) ∧ Below w.heap.size w w' := by
  obtain ⟨i0, hi, hz0, hz1, hz2⟩ := info_parts Yba.info5
  go_enter Yba.func4, Yba.ntmps4
  go_wp2_with (at_make; refine wpList_make_own _ rfl _ _ 24 rfl w.heap.size 5 i0 (.int .u8 0) 1 Yba.underlying24 hi hz0 hz1 .i64 .i64 _ len rfl rfl (by omega) (by rw [hz2]; omega) (by unfold maxLen; omega) (Nat.le_refl _) ?_; intro w1 hown hgrow)
  have R0 : Hid (Rel w zs len 0 (decide (0 < len)) w1) := ⟨by simpa [Plain.gath] using hown, by simp [Plain.good], (Below.refl _ _).grown hgrow (Nat.le_refl _) (by simp)⟩
  clear hown hgrow
  go_wp2
  go_loopw [3, 4, 19] (fun v q i wr => ∃ (k : Nat) (wt : Bool), k ≤ len ∧ i = .int .i64 k ∧ v = .slice (some ⟨w.heap.size, 0, none⟩) k len ∧ q = .bool wt ∧ Hid (Rel w zs len k wt wr)) (fun _ _ i _ => len - (intOf i).toNat)
  case atStart => exact ⟨0, _, Nat.zero_le _, rfl, rfl, rfl, R0⟩
  case round =>
    clear R0
    obtain ⟨k, wt, hk, rfl, rfl, rfl, HR⟩ := hrel
    by_cases hlt : k < len
    · obtain ⟨b, off, rfl, hb, hc⟩ := HT.out (by omega)
      obtain ⟨hck, hz3, hz4⟩ := hc k hlt
      obtain ⟨z, hzz⟩ : ∃ z, z = zs.getD k 0 := ⟨_, rfl⟩
      rw [← hzz] at hck hz3 hz4
      have HZ : Hid (z = zs.getD k 0) := hzz
      clear hzz hc
      have hcr : wr.cell? ⟨b, off + k, none⟩ = some (.int .u8 z) := by rw [HR.out.below.cell hb]; exact hck
      have hown := HR.out.own
      have hz5 : (z % 12).toNat < (⟨#[48, 49, 50, 51, 52, 53, 54, 55, 56, 57, 47, 58]⟩ : ByteArray).size := by show _ < 12; omega
      by_cases h10 : z % 12 < 10
      · go_wp2_with (at_builtin; refine wpList_append_fits _ rfl _ _ 24 rfl w.heap.size 5 i0 1 Yba.underlying24 hi hz1 w.heap.size k len _ rfl (hown.alloc _) ⟨wr.heap.size, 0, none⟩ 1 1 [.int .u8 (((⟨#[48, 49, 50, 51, 52, 53, 54, 55, 56, 57, 47, 58]⟩ : ByteArray)[(z % 12).toNat].toNat : Nat) : Int)] rfl rfl (cell_one_new _ _ _) (by intro u hu; simp at hu; subst hu; rfl) (by omega) ?_; intro w1 hown1 hgrow1)
        go_roundw
        case rel => exact ⟨k + 1, wt, by omega, by go_num, rfl, rfl, rel_step HR.out hz hlt hz3 HZ.out wt (by simp [h10]) hz5 hown1 hgrow1⟩
        case measure => simp [intOf]; omega
      · go_wp2_with (at_builtin; refine wpList_append_fits _ rfl _ _ 24 rfl w.heap.size 5 i0 1 Yba.underlying24 hi hz1 w.heap.size k len _ rfl (hown.alloc _) ⟨wr.heap.size, 0, none⟩ 1 1 [.int .u8 (((⟨#[48, 49, 50, 51, 52, 53, 54, 55, 56, 57, 47, 58]⟩ : ByteArray)[(z % 12).toNat].toNat : Nat) : Int)] rfl rfl (cell_one_new _ _ _) (by intro u hu; simp at hu; subst hu; rfl) (by omega) ?_; intro w1 hown1 hgrow1)
        go_roundw
        case rel => exact ⟨k + 1, false, by omega, by go_num, rfl, rfl, rel_step HR.out hz hlt hz3 HZ.out false (by simp [h10]) hz5 hown1 hgrow1⟩
        case measure => simp [intOf]; omega
    · have hkl : k = len := by omega
      subst hkl
      have hcv := rel_string HR.out
      have hin : Hid (Plain.allB (⟨(Plain.gath (zs.take k)).toArray⟩ : ByteArray).data.toList = wt) := by
        show _ = _
        rw [HR.out.want]
        show Plain.allB (Plain.gath (zs.take k)) = _
        rw [Plain.built, List.length_take, hz, Nat.min_self]
      have hsz : (⟨(Plain.gath (zs.take k)).toArray⟩ : ByteArray).size ≤ maxLen := by
        show (Plain.gath (zs.take k)).toArray.size ≤ _
        simp [Plain.gath_len, maxLen]; omega
      have HZ : Hid ((⟨(Plain.gath (zs.take k)).toArray⟩ : ByteArray).size ≤ maxLen) := hsz
      clear hsz
      generalize (⟨(Plain.gath (zs.take k)).toArray⟩ : ByteArray) = str at *
      go_wp2_with (go_at_call 6; refine (allDigits_at str wt HZ.out hin _).mono ?_; rintro e w2 ⟨rfl, rfl⟩)
      go_ret
      exact ⟨rfl, HR.out.below⟩

set_option maxHeartbeats 1000000 in
theorem walk_long (a : Option Addr) (len cap : Nat) (w : World) (hlen : 1024 < len) (hm : len ≤ 9223372036854775807) :
    Calls Yba.prog 4 #[.slice a len cap] w fun e w' => e = .returned (.bool true) ∧ Below w.heap.size w w' := by
  go_enter Yba.func4, Yba.ntmps4
  go_wp2
  go_ret
  exact ⟨rfl, Below.refl _ _⟩

theorem walk (a0 : Option Addr) (len0 cap0 : Nat) (z0 : List Int) (w : World) (w0 : IsRow .u8 w a0 len0 cap0 z0) :
    Calls Yba.prog 4 #[.slice a0 len0 cap0] w fun e w' => e = .returned (.bool true) ∧ Below w.heap.size w w' := by
  rcases w0 with ⟨rfl, rfl, rfl, rfl⟩ | ⟨x, rfl, hlc, hcm, hzl, hcell, hwf⟩
  · exact walk_row none 0 0 [] w rfl (by omega) (fun h => by omega)
  · by_cases hl : len0 ≤ 1024
    · refine walk_row (some x) len0 cap0 (z0.take len0) w (by rw [List.length_take]; omega) hl (fun hp => ?_)
      obtain ⟨b, off, rfl, hc⟩ := ints_at hcell (by omega)
      refine ⟨b, off, rfl, World.block_lt_of_cell? w _ (hc 0 (by omega)), fun j hj => ?_⟩
      have e : (z0.take len0).getD j 0 = z0.getD j 0 := by simp [List.getD, hj]
      rw [e]
      have hm : z0.getD j 0 ∈ z0 := by
        have hjl : j < z0.length := by omega
        simp [List.getD, List.getElem?_eq_getElem hjl]
      exact ⟨hc j (by omega), bounds_u8 (hwf _ hm)⟩
    · exact walk_long _ _ _ w (by omega) (by unfold maxLen at hcm; omega)

/-! ### THE ROW's STEP: WRITTEN OUT: LEAVE IT -/
set_option maxRecDepth 100000 in
theorem lifted (os : Os) (started : os.Started) (H : Type) (enc : TypeId × Value → H) :
    ReturnsInHanded {} Yba.checked os 4 .any (Rows.lawS1303CBuiltSpec.pre6 enc Yba.prog Yba.f4 Rows.lawS1303CBuiltRow.domain false) (Rows.lawS1303CBuiltSpec.post enc Yba.prog Yba.f4 false true false false) := by
  refine returnsInHanded_of_change (C := Yba.checked) own started (by kernel_rfl) Yba.func4
    (ChangeSpec.witness6 (enc := enc) (C := Yba.checked) false ⟨#[], #[.slice none 0 0], []⟩ 8 (by kernel_rfl) (by kernel_rfl) (by kernel_rfl) (by kernel_rfl)) ?_
  intro W base args ds gs before hval0 hW hcnd _
  have hval : ∀ (j : Nat) t v, Yba.f4.params[j]? = some t → args[j]? = some v → Value.okWide Yba.prog W .any base t v := hval0
  have hW' := hW
  obtain ⟨p, q, hA0, hV, rfl, hfz, hnd⟩ := hW
  have hA : DataW.TrodAll enc Yba.prog W 0 (fun _ => true) true Yba.f4.params.toList args.toList ds p := hA0
  rw [Yba.params4] at hA hval
  obtain ⟨v0, vs0, d0, ds0, p0, q0, hargs, rfl, rfl, h0, r0⟩ := trodAll_cons hA
  obtain ⟨rfl, rfl, rfl⟩ := trodAll_nil r0
  obtain rfl : args = #[v0] := by cases args; simp_all
  obtain ⟨rfl, rfl⟩ := trodVars_none hV
  obtain ⟨a0, len0, cap0, rfl⟩ := okWide_slice Yba.underlying24 (hval 0 24 v0 rfl rfl)
  have k0 := h0
  have lt0 : ∀ x ∈ p0, x.block < W.heap.size := by obtain ⟨m, hm⟩ := k0; exact DataW.trod_lt m _ _ _ hm
  obtain ⟨z0, w0⟩ : ∃ zs, IsRow .u8 W a0 len0 cap0 zs := by
    obtain ⟨fuel, hf⟩ := h0
    rcases open_ints Yba.underlying24 Yba.underlying5 (by kernel_rfl) hf with ⟨hcs, _⟩ | ⟨x, l, c, zs, hcs, _, hl, hm, hz, _, hcell, hwz⟩
    · simp [Value.cells] at hcs
      obtain ⟨rfl, rfl, rfl⟩ := hcs
      exact ⟨[], .inl ⟨rfl, rfl, rfl, rfl⟩⟩
    · simp [Value.cells] at hcs
      obtain ⟨rfl, rfl, rfl⟩ := hcs
      exact ⟨zs, .inr ⟨_, rfl, hl, hm, by simpa using hz, hcell, hwz⟩⟩
  clear hA0 hval0
  refine (walk a0 len0 cap0 z0 W w0).mono fun e W' ⟨he, bel⟩ => ?_
  subst he
  exact ⟨_, rfl, _, _, _, [], _, [], hW', trodAll_mk1 (shut_bool Yba.underlying4 _), (trodAll_cons_mk (Below.trod laidOut (by kernel_rfl) (of_decide_eq_true (by kernel_rfl)) k0 bel lt0) trodAll_mk0), rfl, bel.frame _, fun h => by cases h⟩

theorem over : Rows.lawS1303CBuiltRow.holds Yba.pinned (OpenSpec.ofChange Rows.lawS1303CBuiltSpec) :=
  OpenClaim.holds_of_wide 4 Yba.f4 rfl rfl rfl rfl rfl rfl rfl ⟨rfl, rfl, rfl, rfl, rfl⟩ rfl rfl rfl rfl rfl (by kernel_rfl) Yba.func4 (by kernel_rfl)
    (of_decide_eq_true (by kernel_rfl)) (by unfold Func.isWrapper; first | (rw [if_pos (by decide +kernel)]; kernel_rfl) | (rw [if_neg (by decide +kernel)]; exact ⟨rfl, rfl⟩))
    (fun os started H enc _ => lifted os started H enc)

/-- ████ THE STATEMENT ████ -/
theorem proved : Rows.LawS1303CBuiltSaid := over
#print axioms proved
end Go.Proofs.Ybulkzyq.lawS1303CBuilt
