/-
  THE PROOF OF 'Rows.LawS1307ABuiltSaid'. The frame is the shell's (proof-skeleton.mjs); the walk is ours.
-/
import Derived.Test.YbulkaaauRows
import Derived.WalkKit
import Derived.ProofKit
import Derived.OpenShut
import Derived.ShutString
import Derived.ChangeOld
import Derived.Below
import Derived.Laws.IdiomStrings
import Derived.Deep.QuietTactic
import Derived.BigQuiet
import Derived.WalkSmall
import Derived.Test.YbulkaaauModel
import Derived.Test.YbulkaaauPlainB
namespace Go.Proofs.Ybulkaaau.lawS1307ABuilt
open Go.ChangeShapes Go.WideShapes Go.ChangeAt Go.RowKit
open Go.ChangeMaps (open_string shut_string)
set_option linter.unusedVariables false

theorem own : ownKnob Yba.prog.godebug = none := by kernel_rfl
theorem laidOut : laidOutB Yba.prog = true := by kernel_rfl

/-- WHAT THE WALK IS TOLD OF A SLICE OF INTEGERS THAT CAME IN: it is nil; or it leads to a row of 'cap' cells, the numbers 'zs' (the first 'len' are its elements, the rest its spare room), each fitting its kind. -/
def IsRow (k : IntKind) (w : World) (a : Option Addr) (len cap : Nat) (zs : List Int) : Prop :=
  (a = none ∧ len = 0 ∧ cap = 0 ∧ zs = []) ∨
  ∃ x, a = some x ∧ len ≤ cap ∧ cap ≤ maxLen ∧ zs.length = cap ∧ (∀ i, i < zs.length → w.cell? (x.add i) = some (.int k (zs.getD i 0))) ∧ ∀ n ∈ zs, (Lit.int k n).wf = true

/-! ### STEP 1: THE WALK -/
theorem Yba.info5 : (Yba.prog.info? 5).map (fun i => (i.zero, i.size, i.bytes)) = some (some (.int .u8 0), 1, 1) := by kernel_rfl

/-- A call's answer, as numberAfter and its restatement give it. -/
def Gives (f b : Nat) (t x : ByteArray) (v : Nat) (r : ByteArray) (o : Bool) : Prop :=
  ∀ w : World, Calls Yba.prog f #[.string t, .int .u8 b] w fun e w' => e = .returned (.tuple #[.agg #[.string x, .int .u64 v, .bool false], .string r, .bool o]) ∧ Below w.heap.size w w'

/-- numberAfter and its restatement answer the same. -/
theorem both (t : ByteArray) (b : Nat) (hs : t.size ≤ 9223372036854775807) : ∃ (x : ByteArray) (v : Nat) (r : ByteArray) (o : Bool), Gives 7 b t x v r o ∧ Gives 8 b t x v r o := by
  by_cases h2 : 2 ≤ t.size
  · by_cases h0 : Plain.byteAt t 0 = b
    · cases h1 : Plain.dg (Plain.byteAt t 1) with
      | true =>
        rw [Plain.byteAt_in (by omega)] at h0 h1
        exact ⟨_, _, _, _, fun w => numberAfter_yes t b w hs h2 h0 h1 _ _ rfl, fun w => model_yes t b w hs h2 h0 h1 _ _ rfl⟩
      | false =>
        have hf : Fails t b := .inr (.inr ⟨h2, h0, h1⟩)
        exact ⟨_, _, _, _, fun w => numberAfter_no t b w hs hf, fun w => model_no t b w hs hf⟩
    · have hf : Fails t b := .inr (.inl ⟨h2, h0⟩)
      exact ⟨_, _, _, _, fun w => numberAfter_no t b w hs hf, fun w => model_no t b w hs hf⟩
  · have hf : Fails t b := .inl (by omega)
    exact ⟨_, _, _, _, fun w => numberAfter_no t b w hs hf, fun w => model_no t b w hs hf⟩

/-- Where there are digits: what they answer, and what the law asks of it. -/
theorem both_yes (b : Nat) (hb : b ≤ 255) (zs : List Int) (tail : ByteArray) (hz : 0 < zs.length) (hs : (Plain.text b (Plain.digs zs) tail).size ≤ 9223372036854775807) :
    ∃ (x : ByteArray) (v : Nat) (r : ByteArray), Gives 7 b (Plain.text b (Plain.digs zs) tail) x v r true ∧ Gives 8 b (Plain.text b (Plain.digs zs) tail) x v r true ∧
      zs.length ≤ x.size ∧ x.extract 0 zs.length = ⟨(Plain.digs zs).toArray⟩ ∧ 1 + x.size + r.size = (Plain.text b (Plain.digs zs) tail).size := by
  have hsz := Plain.text_size b (Plain.digs zs) tail
  have hl := Plain.digs_len zs
  have h0 := Plain.text_first b hb (Plain.digs zs) tail
  have h1 := Plain.text_digit b zs tail 0 hz
  have hfar := Plain.num_far b zs tail hz
  have hcut := Plain.text_cut b (Plain.digs zs) tail (Plain.num (Plain.text b (Plain.digs zs) tail)).1
  rw [hl] at hcut hsz
  generalize Plain.text b (Plain.digs zs) tail = t at *
  have h2 : 2 ≤ t.size := by omega
  obtain ⟨nb1, nb2, nb3⟩ := Plain.num_bounds t h2
  rw [Plain.byteAt_in (by omega)] at h0 h1
  obtain ⟨n, v, hN⟩ : ∃ n v, Plain.num t = (n, v) := ⟨_, _, rfl⟩
  rw [hN] at nb1 nb2 nb3 hfar hcut
  simp only at nb1 nb2 nb3 hfar hcut
  obtain ⟨s1, s2⟩ := Plain.cut_size t n nb1 nb2
  exact ⟨t.extract 1 n, v, t.extract n t.size, fun w => numberAfter_yes t b w hs h2 h0 h1 n v hN, fun w => model_yes t b w hs h2 h0 h1 n v hN, by omega, hcut (by omega) (by omega), by omega⟩

/-- All that the walk is told, the strings as letters. -/
theorem prep (b : Nat) (hb : b ≤ 255) (zs : List Int) (tail : ByteArray) (k : Nat) (hk : zs.length = k) (hk2 : k ≤ 1024) (ht : tail.size ≤ 1024) :
    ∃ (ld dgs t x : ByteArray) (v : Nat) (r : ByteArray) (o : Bool), (⟨#[UInt8.ofNat b]⟩ : ByteArray) = ld ∧ (⟨(Plain.digs zs).toArray⟩ : ByteArray) = dgs ∧ ld ++ dgs ++ tail = t ∧ ld.size ≤ 1 ∧ dgs.size ≤ 1024 ∧ t.size ≤ 2049 ∧
      Gives 7 b t x v r o ∧ Gives 8 b t x v r o ∧ (0 < k → o = true ∧ k ≤ x.size ∧ x.extract 0 k = dgs ∧ 1 + x.size + r.size = t.size) := by
  have hsz := Plain.text_size b (Plain.digs zs) tail
  rw [Plain.digs_len, hk] at hsz
  have hd : (⟨(Plain.digs zs).toArray⟩ : ByteArray).size ≤ 1024 := by
    show (Plain.digs zs).toArray.size ≤ 1024
    simp [Plain.digs_len, hk]; omega
  by_cases hp : 0 < k
  · obtain ⟨x, v, r, H7, H8, x1, x2, x3⟩ := both_yes b hb zs tail (by omega) (by omega)
    rw [hk] at x1 x2
    exact ⟨_, _, Plain.text b (Plain.digs zs) tail, x, v, r, true, rfl, rfl, rfl, Nat.le_refl _, hd, by omega, H7, H8, fun _ => ⟨rfl, x1, x2, x3⟩⟩
  · obtain ⟨x, v, r, o, H7, H8⟩ := both (Plain.text b (Plain.digs zs) tail) b (by omega)
    exact ⟨_, _, Plain.text b (Plain.digs zs) tail, x, v, r, o, rfl, rfl, rfl, Nat.le_refl _, hd, by omega, H7, H8, fun h => absurd h hp⟩

/-- 'string([]byte{b})'. -/
theorem lead_string (b : Nat) (hb : b ≤ 255) (w : World) : (convert 22 9 (.slice (some ⟨w.heap.size, 0, none⟩) 1 1)).run Yba.prog (w.alloc (.cells #[.int .u8 b] 5)) = .ok (.string ⟨#[UInt8.ofNat b]⟩) (w.alloc (.cells #[.int .u8 b] 5)) :=
  run_convert_bytes_back (P := Yba.prog) (w.alloc (.cells #[.int .u8 b] 5)) 22 9 5 ⟨w.heap.size, 0, none⟩ 1 [UInt8.ofNat b] Yba.underlying22 Yba.underlying5 Yba.underlying9 (fun j hj => by
    have : j = 0 := by simpa using hj
    subst this
    simp [go_sem, Addr.add]
    omega)

/-- The digits lie at the head of block g. -/
def DigAt (g : Nat) (zs : List Int) (w : World) : Prop := ∀ j (hj : j < (Plain.digs zs).length), w.cell? ((⟨g, 0, none⟩ : Addr).add j) = some (.int .u8 ((Plain.digs zs)[j].toNat : Int))
theorem DigAt.kept {g B : Nat} {zs : List Int} {w w' : World} (h : DigAt g zs w) (hb : Below B w w') (hg : g < B) : DigAt g zs w' := fun j hj => by
  have e : ((⟨g, 0, none⟩ : Addr).add j) = ⟨g, j, none⟩ := by unfold Addr.add; split <;> simp_all
  have h1 := h j hj
  rw [e] at h1 ⊢
  rw [hb.cell hg]
  exact h1
/-- 'string(dig)'. -/
theorem DigAt.string {g : Nat} {zs : List Int} {w : World} (h : DigAt g zs w) (len : Nat) (hl : zs.length = len) : (convert 22 9 (.slice (some ⟨g, 0, none⟩) len len)).run Yba.prog w = .ok (.string ⟨(Plain.digs zs).toArray⟩) w := by
  have e := run_convert_bytes_back (P := Yba.prog) w 22 9 5 ⟨g, 0, none⟩ len (Plain.digs zs) Yba.underlying22 Yba.underlying5 Yba.underlying9 h
  rw [Plain.digs_len, hl] at e
  exact e

/-- What the walk is told of the numbers. -/
def Told (w : World) (a : Option Addr) (len : Nat) (zs : List Int) : Prop :=
  0 < len → ∃ b off, a = some ⟨b, off, none⟩ ∧ b < w.heap.size ∧ ∀ j, j < len → w.cell? ⟨b, off + j, none⟩ = some (.int .u8 (zs.getD j 0)) ∧ 0 ≤ zs.getD j 0 ∧ zs.getD j 0 ≤ 255

/-- The row of digits behind k rounds: k digits, the rest zero. -/
def row (zs : List Int) (k : Nat) : List Value := ((Plain.digs zs).take k).map (fun c => Value.int .u8 (c.toNat : Int)) ++ List.replicate (zs.length - k) (.int .u8 0)
theorem row_len (zs : List Int) (k : Nat) (h : k ≤ zs.length) : (row zs k).length = zs.length := by simp [row, Plain.digs_len]; omega
theorem row_set (zs : List Int) (k : Nat) (h : k < zs.length) (z : Int) (h0 : 0 ≤ z) (hz : z = zs.getD k 0) : (row zs k).set k (.int .u8 (48 + z % 10)) = row zs (k + 1) := by
  have hl := Plain.digs_len zs
  have hd := Plain.digs_at zs k h
  have e1 : (Plain.digs zs).take (k + 1) = (Plain.digs zs).take k ++ [UInt8.ofNat (48 + z.toNat % 10)] := by
    rw [List.take_add_one, hd, hz]; rfl
  have e2 : zs.length - k = (zs.length - (k + 1)) + 1 := by omega
  unfold row
  rw [e1, e2, List.replicate_succ, List.map_append, List.set_append_right _ _ (by simp; omega)]
  simp [hl, Nat.min_eq_left (Nat.le_of_lt h)]
  omega

structure Rel (w : World) (zs : List Int) (len k : Nat) (wr : World) : Prop where
  own : wr.ownsRow w.heap.size 5 1 (.slice (some ⟨w.heap.size, 0, none⟩) len len) len (row zs k)
  below : Below w.heap.size w wr

theorem rel_step {w : World} {zs : List Int} {len k : Nat} {wr : World} {z : Int} (R : Rel w zs len k wr) (hz : zs.length = len) (hlt : k < len) (h0 : 0 ≤ z) (hzk : z = zs.getD k 0) :
    Rel w zs len (k + 1) (wr.setCell ⟨w.heap.size, k, none⟩ (.int .u8 (48 + z % 10))) := by
  have h := R.own.stored k (.int .u8 (48 + z % 10))
  rw [row_set zs k (by omega) z h0 hzk] at h
  exact ⟨h.1, R.below.setCell (by simp) _⟩

theorem rel_end {w : World} {zs : List Int} {len : Nat} {wr : World} (R : Rel w zs len len wr) (hz : zs.length = len) : DigAt w.heap.size zs wr ∧ w.heap.size < wr.heap.size := by
  refine ⟨fun j hj => ?_, (R.own.lt w.heap.size rfl).2⟩
  refine R.own.cells (g := w.heap.size) rfl j _ ?_
  have hl := Plain.digs_len zs
  unfold row
  rw [hz, Nat.sub_self, List.take_of_length_le (by omega)]
  simp [List.getElem?_eq_getElem hj]

set_option maxHeartbeats 2000000 in
theorem walk_row (b : Nat) (hb : b ≤ 255) (a : Option Addr) (len cap : Nat) (zs : List Int) (tail : ByteArray) (w : World) (hz : zs.length = len) (hlen : len ≤ 1024) (htl : tail.size ≤ 1024) (HT : Hid (Told w a len zs)) :
    Calls Yba.prog 4 #[.int .u8 b, .slice a len cap, .string tail] w fun e w' => e = .returned (.bool true) ∧ Below w.heap.size w w' := by
  obtain ⟨i0, hi, hz0, hz1, hz2⟩ := info_parts Yba.info5
  have hd1 : decide ((1024 : Int) < (len : Int)) = false := decide_eq_false (by omega)
  have hd2 : decide ((1024 : Int) < (tail.size : Int)) = false := decide_eq_false (by omega)
  go_enter Yba.func4, Yba.ntmps4
  go_wp2_with (at_make; refine wpList_make_full _ rfl _ _ 22 rfl w.heap.size 5 i0 (.int .u8 0) 1 Yba.underlying22 hi hz0 hz1 .i64 .i64 _ _ len rfl rfl (by omega) (by omega) (by rw [hz2]; omega) (by unfold maxLen; omega) (Nat.le_refl _) ?_; intro w1 hown hgrow)
  have R0 : Hid (Rel w zs len 0 w1) := ⟨by
    have e : (madeCells (Value.int IntKind.u8 0).cells (len * 1)).toList = row zs 0 := by
      show (madeCells #[Value.int IntKind.u8 0] (len * 1)).toList = _
      rw [toList_madeCells_one]
      simp [row, hz]
    rw [← e]; exact hown, (Below.refl _ _).grown hgrow (Nat.le_refl _) (by simp)⟩
  clear hown hgrow
  go_wp2
  go_loopw [8] (fun i wr => ∃ k : Nat, k ≤ len ∧ i = .int .i64 k ∧ Hid (Rel w zs len k wr)) (fun i _ => len - (intOf i).toNat)
  case atStart => exact ⟨0, Nat.zero_le _, rfl, R0⟩
  case round =>
    clear R0
    obtain ⟨k, hk, rfl, HR⟩ := hrel
    by_cases hlt : k < len
    · obtain ⟨g, off, rfl, hg, hc⟩ := HT.out (by omega)
      obtain ⟨hck, hz3, hz4⟩ := hc k hlt
      obtain ⟨z, hzz⟩ : ∃ z, z = zs.getD k 0 := ⟨_, rfl⟩
      rw [← hzz] at hck hz3 hz4
      have HZ : Hid (z = zs.getD k 0) := hzz
      clear hzz hc
      have hcr : wr.cell? ⟨g, off + k, none⟩ = some (.int .u8 z) := by rw [HR.out.below.cell hg]; exact hck
      obtain ⟨u, hu⟩ : ∃ u, wr.cell? ⟨w.heap.size, k, none⟩ = some u := by
        rw [HR.out.own.cellAt k (by omega)]
        exact ⟨_, List.getElem?_eq_getElem (by rw [row_len zs k (by omega)]; omega)⟩
      have hf := HR.out.own.frozenAt k
      clear hck
      go_wp2
      go_roundw
      case rel => exact ⟨k + 1, by omega, by go_num, rel_step HR.out hz hlt hz3 HZ.out⟩
      case measure => simp [intOf]; omega
    · have hkl : k = len := by omega
      subst hkl
      obtain ⟨hdig, hs0⟩ := rel_end HR.out hz
      have HB0 : Hid (Below w.heap.size w wr) := HR.out.below
      have HD0 : Hid (DigAt w.heap.size zs (wr.alloc (.cells #[.int .u8 b] 5))) := hdig.kept ((Below.refl _ _).alloc (Nat.le_refl _) _) hs0
      have hcv1 := lead_string b hb wr
      have hcv2 := HD0.out.string k hz
      obtain ⟨ld, dgs, t, x, v, r, o, e1, e2, e3, l1, l2, l3, H7, H8, hyes⟩ := prep b hb zs tail k hz hlen htl
      rw [e1] at hcv1
      rw [e2] at hcv2
      have HE : Hid (ld ++ dgs ++ tail = t) := e3
      have HY : Hid (0 < k → o = true ∧ k ≤ x.size ∧ x.extract 0 k = dgs ∧ 1 + x.size + r.size = t.size) := hyes
      have HE2 : Hid ((⟨(Plain.digs zs).toArray⟩ : ByteArray) = dgs) := e2
      have hlt' : decide ((k : Int) < (k : Int)) = false := decide_eq_false (by omega)
      clear hdig hlt HT HR e1 e2 e3 hyes
      go_wp2_with fail
      rw [HE.out]
      clear hcv1 hcv2
      refine (H7 _).mono ?_
      rintro e w2 ⟨rfl, hb2⟩
      have HB2 : Hid (Below w.heap.size w w2) := (HB0.out.alloc (by omega) _).trans (hb2.mono (by simp; omega))
      have HD2 : Hid (DigAt w.heap.size zs w2) := HD0.out.kept hb2 (by simp; omega)
      have hs2 : w.heap.size < w2.heap.size := by have := hb2.size; simp at this; omega
      clear hb2
      go_wp2_with fail
      refine (H8 _).mono ?_
      rintro e w3 ⟨rfl, hb3⟩
      have HD3 : Hid (DigAt w.heap.size zs w3) := (HD2.out.kept ((Below.refl _ _).alloc (Nat.le_refl _) _) hs2).kept hb3 (by simp; omega)
      obtain ⟨c0, c1, c2, f0, f1, f2, hz3, HB3⟩ := Num.kept hb3
      clear hb3
      by_cases hp : 0 < k
      · have hp' : decide ((0 : Int) < (k : Int)) = true := decide_eq_true (by omega)
        obtain ⟨rfl, x1, x2, x3⟩ := HY.out hp
        have HX3 : Hid (1 + x.size + r.size = t.size) := x3
        clear x3 HY
        have hcv3 : ∀ m, (convert 22 9 (.slice (some ⟨w.heap.size, 0, none⟩) k k)).run Yba.prog ((w3.alloc (.cells #[.string x, .int .u64 v, .bool false] 25)).drewN m) = .ok (.string dgs) ((w3.alloc (.cells #[.string x, .int .u64 v, .bool false] 25)).drewN m) := fun m => by
          have h3 : DigAt w.heap.size zs ((w3.alloc (.cells #[.string x, .int .u64 v, .bool false] 25)).drewN m) := HD3.out.kept (below_drewN ((Below.refl (w.heap.size + 1) w3).alloc (by omega) _) m) (by omega)
          have h4 := h3.string k hz
          rw [HE2.out] at h4
          exact h4
        have g0 : (w3.alloc (.cells #[.string x, .int .u64 v, .bool false] 25)).cell? ⟨w2.heap.size, 0, none⟩ = some (.string x) := by rw [World.cell?_alloc_past _ _ _ hz3]; exact c0
        have hd3 : decide ((x.size : Int) < (k : Int)) = false := decide_eq_false (by omega)
        have i1 : (0 : Int) ≤ (k : Int) := by omega
        have i2 : (k : Int) ≤ (x.size : Int) := by omega
        go_wp2
        go_quiet (fail)
        have j1 : x.size ≤ 2049 := by have := HX3.out; omega
        have j2 : r.size ≤ 2049 := by have := HX3.out; omega
        have j3 : (1 + (x.size : Int) + (r.size : Int) != (t.size : Int)) = false := by have := HX3.out; simp; omega
        clear hcv3 x2
        go_wp2
        go_ret
        exact ⟨rfl, below_drewN ((HB2.out.trans (HB3.out.mono (by omega))).alloc (by omega) _) _⟩
      · have hp' : decide ((0 : Int) < (k : Int)) = false := decide_eq_false (by omega)
        go_wp2
        go_ret
        exact ⟨rfl, (HB2.out.trans (HB3.out.mono (by omega))).alloc (by omega) _⟩

theorem walk_long1 (b : Int) (a : Option Addr) (len cap : Nat) (tail : ByteArray) (w : World) (hlen : 1024 < len) (hm : len ≤ 9223372036854775807) :
    Calls Yba.prog 4 #[.int .u8 b, .slice a len cap, .string tail] w fun e w' => e = .returned (.bool true) ∧ Below w.heap.size w w' := by
  have hd1 : decide ((1024 : Int) < (len : Int)) = true := decide_eq_true (by omega)
  go_enter Yba.func4, Yba.ntmps4
  go_wp2
  go_ret
  exact ⟨rfl, Below.refl _ _⟩

theorem walk_long2 (b : Int) (a : Option Addr) (len cap : Nat) (tail : ByteArray) (w : World) (hlen : len ≤ 1024) (ht : 1024 < tail.size) (hm : tail.size ≤ 9223372036854775807) :
    Calls Yba.prog 4 #[.int .u8 b, .slice a len cap, .string tail] w fun e w' => e = .returned (.bool true) ∧ Below w.heap.size w w' := by
  have hd1 : decide ((1024 : Int) < (len : Int)) = false := decide_eq_false (by omega)
  have hd2 : decide ((1024 : Int) < (tail.size : Int)) = true := decide_eq_true (by omega)
  go_enter Yba.func4, Yba.ntmps4
  go_wp2
  go_ret
  exact ⟨rfl, Below.refl _ _⟩

theorem walk (a0 : Int) (a1 : Option Addr) (len1 cap1 : Nat) (z1 : List Int) (a2 : ByteArray) (w : World) (w0 : (Lit.int .u8 a0).wf = true) (w1 : IsRow .u8 w a1 len1 cap1 z1) (w2 : a2.size ≤ maxLen) :
    Calls Yba.prog 4 #[.int .u8 a0, .slice a1 len1 cap1, .string a2] w fun e w' => e = .returned (.bool true) ∧ Below w.heap.size w w' := by
  obtain ⟨g1, g2⟩ := bounds_u8 w0
  have hm2 : a2.size ≤ 9223372036854775807 := by unfold maxLen at w2; omega
  rcases w1 with ⟨rfl, rfl, rfl, rfl⟩ | ⟨x, rfl, hlc, hcm, hzl, hcell, hwf⟩
  · by_cases ht : a2.size ≤ 1024
    · obtain ⟨b, rfl⟩ := Int.eq_ofNat_of_zero_le g1
      exact walk_row b (by omega) none 0 0 [] a2 w rfl (by omega) ht (fun h => by omega)
    · exact walk_long2 a0 none 0 0 a2 w (by omega) (by omega) hm2
  · by_cases hl : len1 ≤ 1024
    · by_cases ht : a2.size ≤ 1024
      · obtain ⟨c, rfl⟩ := Int.eq_ofNat_of_zero_le g1
        refine walk_row c (by omega) (some x) len1 cap1 (z1.take len1) a2 w (by rw [List.length_take]; omega) hl ht (fun hp => ?_)
        obtain ⟨b, off, rfl, hc⟩ := ints_at hcell (by omega)
        refine ⟨b, off, rfl, World.block_lt_of_cell? w _ (hc 0 (by omega)), fun j hj => ?_⟩
        have e : (z1.take len1).getD j 0 = z1.getD j 0 := by simp [List.getD, hj]
        rw [e]
        have hm : z1.getD j 0 ∈ z1 := by
          have hjl : j < z1.length := by omega
          simp [List.getD, List.getElem?_eq_getElem hjl]
        exact ⟨hc j (by omega), bounds_u8 (hwf _ hm)⟩
      · exact walk_long2 a0 _ len1 cap1 a2 w hl (by omega) hm2
    · exact walk_long1 a0 _ len1 cap1 a2 w (by omega) (by unfold maxLen at hcm; omega)

/-! ### THE ROW's STEP: WRITTEN OUT: LEAVE IT -/
set_option maxRecDepth 100000 in
theorem lifted (os : Os) (started : os.Started) (H : Type) (enc : TypeId × Value → H) :
    ReturnsInHanded {} Yba.checked os 4 .any (Rows.lawS1307ABuiltSpec.pre6 enc Yba.prog Yba.f4 Rows.lawS1307ABuiltRow.domain false) (Rows.lawS1307ABuiltSpec.post enc Yba.prog Yba.f4 false true false false) := by
  refine returnsInHanded_of_change (C := Yba.checked) own started (by kernel_rfl) Yba.func4
    (ChangeSpec.witness6 (enc := enc) (C := Yba.checked) false ⟨#[], #[.int .u8 0, .slice none 0 0, .string ByteArray.empty], []⟩ 8 (by kernel_rfl) (by kernel_rfl) (by kernel_rfl) (by kernel_rfl)) ?_
  intro W base args ds gs before hval0 hW hcnd _
  have hval : ∀ (j : Nat) t v, Yba.f4.params[j]? = some t → args[j]? = some v → Value.okWide Yba.prog W .any base t v := hval0
  have hW' := hW
  obtain ⟨p, q, hA0, hV, rfl, hfz, hnd⟩ := hW
  have hA : DataW.TrodAll enc Yba.prog W 0 (fun _ => true) true Yba.f4.params.toList args.toList ds p := hA0
  rw [Yba.params4] at hA hval
  obtain ⟨v0, vs0, d0, ds0, p0, q0, hargs, rfl, rfl, h0, r0⟩ := trodAll_cons hA
  obtain ⟨v1, vs1, d1, ds1, p1, q1, rfl, rfl, rfl, h1, r1⟩ := trodAll_cons r0
  obtain ⟨v2, vs2, d2, ds2, p2, q2, rfl, rfl, rfl, h2, r2⟩ := trodAll_cons r1
  obtain ⟨rfl, rfl, rfl⟩ := trodAll_nil r2
  obtain rfl : args = #[v0, v1, v2] := by cases args; simp_all
  obtain ⟨rfl, rfl⟩ := trodVars_none hV
  obtain ⟨a0, rfl, rfl, rfl, w0⟩ := open_int Yba.underlying5 (hval 0 5 v0 rfl rfl) h0
  obtain ⟨a1, len1, cap1, rfl⟩ := okWide_slice Yba.underlying22 (hval 1 22 v1 rfl rfl)
  have k1 := h1
  have lt1 : ∀ x ∈ p1, x.block < W.heap.size := by obtain ⟨m, hm⟩ := k1; exact DataW.trod_lt m _ _ _ hm
  obtain ⟨z1, w1⟩ : ∃ zs, IsRow .u8 W a1 len1 cap1 zs := by
    obtain ⟨fuel, hf⟩ := h1
    rcases open_ints Yba.underlying22 Yba.underlying5 (by kernel_rfl) hf with ⟨hcs, _⟩ | ⟨x, l, c, zs, hcs, _, hl, hm, hz, _, hcell, hwz⟩
    · simp [Value.cells] at hcs
      obtain ⟨rfl, rfl, rfl⟩ := hcs
      exact ⟨[], .inl ⟨rfl, rfl, rfl, rfl⟩⟩
    · simp [Value.cells] at hcs
      obtain ⟨rfl, rfl, rfl⟩ := hcs
      exact ⟨zs, .inr ⟨_, rfl, hl, hm, by simpa using hz, hcell, hwz⟩⟩
  obtain ⟨a2, rfl, rfl, rfl, w2⟩ := open_string Yba.underlying9 (hval 2 9 v2 rfl rfl) h2
  clear hA0 hval0
  refine (walk a0 a1 len1 cap1 z1 a2 W w0 w1 w2).mono fun e W' ⟨he, bel⟩ => ?_
  subst he
  exact ⟨_, rfl, _, _, _, [], _, [], hW', trodAll_mk1 (shut_bool Yba.underlying4 _), (trodAll_cons_mk (shut_int Yba.underlying5 w0) (trodAll_cons_mk (Below.trod laidOut (by kernel_rfl) (of_decide_eq_true (by kernel_rfl)) k1 bel lt1) (trodAll_cons_mk (shut_string Yba.underlying9 w2) trodAll_mk0))), rfl, bel.frame _, fun h => by cases h⟩

theorem over : Rows.lawS1307ABuiltRow.holds Yba.pinned (OpenSpec.ofChange Rows.lawS1307ABuiltSpec) :=
  OpenClaim.holds_of_wide 4 Yba.f4 rfl rfl rfl rfl rfl rfl rfl ⟨rfl, rfl, rfl, rfl, rfl⟩ rfl rfl rfl rfl rfl (by kernel_rfl) Yba.func4 (by kernel_rfl)
    (of_decide_eq_true (by kernel_rfl)) (by unfold Func.isWrapper; first | (rw [if_pos (by decide +kernel)]; kernel_rfl) | (rw [if_neg (by decide +kernel)]; exact ⟨rfl, rfl⟩))
    (fun os started H enc _ => lifted os started H enc)

/-- ████ THE STATEMENT ████ -/
theorem proved : Rows.LawS1307ABuiltSaid := over
#print axioms proved
end Go.Proofs.Ybulkaaau.lawS1307ABuilt
