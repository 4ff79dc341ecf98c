/-
  THE WALKS of newGeometry and zzs1297ageo.
-/
import Derived.Test.YbulkzvkWalksA
import Derived.Deep.AppendLies
namespace Go.Proofs.Ybulkzvk
open Go.RowKit

theorem Yba.info58 : (Yba.prog.info? 58).map (fun i => (i.zero, i.size, i.bytes)) = some (some (.agg #[.int .u64 0, .int .u64 0]), 2, 16) := by kernel_rfl

/-- The cells of the first k widths. -/
def wcells (n : Nat) : Nat → List Value
  | 0 => []
  | k + 1 => wcells n k ++ [.int .u64 ((n ^ k : Nat) : Int), .int .u64 (18446744073709551615 / ((n ^ k : Nat) : Int))]

theorem wcells_len (n k : Nat) : (wcells n k).length = 2 * k := by
  induction k with
  | zero => rfl
  | succ k ih => simp [wcells, ih]; omega

theorem wcells_at (n : Nat) : ∀ k j, j < k → (wcells n k)[2 * j]? = some (.int .u64 ((n ^ j : Nat) : Int)) ∧ (wcells n k)[2 * j + 1]? = some (.int .u64 (18446744073709551615 / ((n ^ j : Nat) : Int)))
  | 0, j, h => absurd h (Nat.not_lt_zero _)
  | k + 1, j, h => by
    have hl := wcells_len n k
    by_cases hj : j < k
    · have ih := wcells_at n k j hj
      simp only [wcells]
      rw [List.getElem?_append_left (by omega), List.getElem?_append_left (by omega)]
      exact ih
    · have : j = k := by omega
      subst this
      simp only [wcells]
      rw [List.getElem?_append_right (by omega), List.getElem?_append_right (by omega), hl]
      rw [show 2 * j - 2 * j = 0 by omega, show 2 * j + 1 - 2 * j = 1 by omega]
      exact ⟨rfl, rfl⟩

/-- What the levels' cells hold: each level's width and its reciprocal; the last is the first whose turn is too long. -/
structure Geo (n L g : Nat) (w : World) : Prop where
  width : ∀ j, j ≤ L → w.cell? ⟨g, 2 * j, none⟩ = some (.int .u64 ((n ^ j : Nat) : Int))
  recip : ∀ j, j ≤ L → w.cell? ⟨g, 2 * j + 1, none⟩ = some (.int .u64 (18446744073709551615 / ((n ^ j : Nat) : Int)))
  fits : n ^ L ≤ 18446744073709551615
  last : 18446744073709551615 < n ^ L * n
  two : 2 ≤ n
  small : n ≤ 301
  lt : g < w.heap.size

def Mx : Nat := 18446744073709551615

/-- The loop's relation: k rounds done. -/
structure Rel (n : Nat) (w : World) (k d : Nat) (v : Value) (wr : World) : Prop where
  pow : d = n ^ k
  fits : d ≤ 18446744073709551615
  own : wr.ownsRow (w.heap.size + 1) 58 2 v (k + 1) (wcells n (k + 1))
  c0 : wr.cell? ⟨w.heap.size, 0, none⟩ = some (.int .u64 0)
  c1 : wr.cell? ⟨w.heap.size, 1, none⟩ = some (.slice none 0 0)
  f0 : wr.frozen? ⟨w.heap.size, 0, none⟩ = false
  f1 : wr.frozen? ⟨w.heap.size, 1, none⟩ = false
  below : Below w.heap.size w wr
  size : w.heap.size + 1 ≤ wr.heap.size

theorem rel_start (n : Nat) (w : World) : Rel n w 0 1 (.slice (some ⟨w.heap.size + 1 + 1, 0, none⟩) 1 1)
    (((w.alloc (.cells #[.int .u64 0, .slice none 0 0] 25)).alloc (.cells #[.int .u64 1, .int .u64 18446744073709551615] 58)).alloc (.cells #[.int .u64 1, .int .u64 18446744073709551615] 58)) := by
  refine ⟨by simp, by omega, ?_, ?_, ?_, ?_, ?_, ?_, by simp⟩
  · have h := World.ownsRow_lit (base := w.heap.size + 1) (e := 58) (size := 2) ((w.alloc (.cells #[.int .u64 0, .slice none 0 0] 25)).alloc (.cells #[.int .u64 1, .int .u64 18446744073709551615] 58)) #[.int .u64 1, .int .u64 18446744073709551615] 1 (by simp) (by simp [maxLen]) (by simp)
    have e : wcells n 1 = [.int .u64 1, .int .u64 18446744073709551615] := by simp [wcells]
    rw [e]
    simpa using h
  · simp [go_sem, World.cell?_alloc_past]
  · simp [go_sem, World.cell?_alloc_past]
  · simp [go_sem]
  · simp [go_sem]
  · exact (((Below.refl _ _).alloc (Nat.le_refl _) _).alloc (by simp) _).alloc (by simp; omega) _

theorem rel_step {n : Nat} {w : World} {k d : Nat} {v : Value} {wr w1 : World} {o1 o2 : Obj} {g cap : Nat} (R : Rel n w k d v wr) (hlt : d * n ≤ 18446744073709551615)
    (hown : w1.ownsRow (w.heap.size + 1) 58 2 (.slice (some ⟨g, 0, none⟩) (k + 1 + 1) cap) (k + 1 + 1) (wcells n (k + 1) ++ [.int .u64 ((d : Int) * (n : Int)), .int .u64 (18446744073709551615 / ((d : Int) * (n : Int)))]))
    (hgrow : ((wr.alloc o1).alloc o2).grownBy w1 v.ownBlock) :
    Rel n w (k + 1) (d * n) (.slice (some ⟨g, 0, none⟩) (k + 1 + 1) cap) w1 := by
  have hs := R.size
  have hne : ∀ j, v.ownBlock = some j → w.heap.size + 1 ≤ j := fun j hj => (R.own.lt j hj).1
  have hn : some w.heap.size ≠ v.ownBlock := fun e => by have := hne _ e.symm; omega
  have B2 : Below w.heap.size w ((wr.alloc o1).alloc o2) := (R.below.alloc (by omega) _).alloc (by simp; omega) _
  have hlt1 : w.heap.size < ((wr.alloc o1).alloc o2).heap.size := by simp; omega
  have same : Below (w.heap.size + 1) wr ((wr.alloc o1).alloc o2) := ((Below.refl _ _).alloc (by omega) _).alloc (by simp; omega) _
  refine ⟨by rw [R.pow, Nat.pow_succ], hlt, ?_, ?_, ?_, ?_, ?_, ?_, ?_⟩
  · have e : (d : Int) * (n : Int) = ((n ^ (k + 1) : Nat) : Int) := by rw [R.pow, Nat.pow_succ, Int.natCast_mul]
    rw [e] at hown
    exact hown
  · rw [World.cell?_of_block (hgrow.block _ hlt1 hn), same.cell (by simp)]; exact R.c0
  · rw [World.cell?_of_block (hgrow.block _ hlt1 hn), same.cell (by simp)]; exact R.c1
  · rw [World.frozen?_of_block (hgrow.block _ hlt1 hn), same.frozen (by simp)]; exact R.f0
  · rw [World.frozen?_of_block (hgrow.block _ hlt1 hn), same.frozen (by simp)]; exact R.f1
  · exact B2.grown hgrow (by omega) (fun j hj => by have := hne j hj; omega)
  · have := hgrow.size; omega

theorem rel_end {n : Nat} {w : World} {k d g cap : Nat} {wr : World} (h2 : 2 ≤ n) (h3 : n ≤ 301) (R : Rel n w k d (.slice (some ⟨g, 0, none⟩) (k + 1) cap) wr) (hlt : ¬ d * n ≤ 18446744073709551615) (u0 u1 : Value) :
    k + 1 ≤ cap ∧ cap ≤ maxLen ∧ w.heap.size ≤ g ∧
      Geo n k g ((wr.setCell ⟨w.heap.size, 0, none⟩ u0).setCell ⟨w.heap.size, 1, none⟩ u1) ∧ Below w.heap.size w ((wr.setCell ⟨w.heap.size, 0, none⟩ u0).setCell ⟨w.heap.size, 1, none⟩ u1) := by
  have O := ownsRow_setCell_below (ownsRow_setCell_below R.own (a := ⟨w.heap.size, 0, none⟩) (by simp) u0) (a := ⟨w.heap.size, 1, none⟩) (by simp) u1
  have hcell := fun j (hj : j < (k + 1) * 2) => O.cellAt j hj
  rcases O.2 with ⟨_, h0⟩ | ⟨g', cap', cur, hv, hb, hg, hc, hm, _⟩
  · omega
  · simp only [Value.slice.injEq, Option.some.injEq, Addr.mk.injEq, and_true, true_and] at hv
    obtain ⟨rfl, rfl⟩ := hv
    refine ⟨hc, hm, by omega, ⟨fun j hj => ?_, fun j hj => ?_, ?_, ?_, h2, h3, (Array.getElem?_eq_some_iff.1 hg).1⟩, (R.below.setCell (by simp) _).setCell (by simp) _⟩
    · rw [hcell _ (by omega)]; exact (wcells_at n (k + 1) j (by omega)).1
    · rw [hcell _ (by omega)]; exact (wcells_at n (k + 1) j (by omega)).2
    · rw [← R.pow]; exact R.fits
    · rw [← R.pow]; omega

theorem mul_facts (n d : Nat) (h2 : 2 ≤ n) (h : d * n ≤ 18446744073709551615) (hd : 1 ≤ d) : (d : Int) ≤ 18446744073709551615 / (n : Int) ∧ (d : Int) * (n : Int) ≤ 18446744073709551615 ∧ 1 ≤ (d : Int) * (n : Int) ∧ 2 * (d : Int) ≤ (d : Int) * (n : Int) := by
  have e : (d : Int) * (n : Int) = ((d * n : Nat) : Int) := (Int.natCast_mul d n).symm
  have h1 := (Plain.le_div d n h2).2 h
  have h3 : d * 2 ≤ d * n := Nat.mul_le_mul_left _ h2
  have h4 : (d : Int) ≤ ((18446744073709551615 / n : Nat) : Int) := by omega
  rw [Int.natCast_ediv] at h4
  rw [e]
  refine ⟨h4, by omega, by omega, by omega⟩
theorem mul_facts_not (n d : Nat) (h2 : 2 ≤ n) (h : ¬ d * n ≤ 18446744073709551615) : 18446744073709551615 / (n : Int) < (d : Int) := by
  have h1 := fun g => h ((Plain.le_div d n h2).1 g)
  have h5 := Nat.lt_of_not_le h1
  have h4 : ((18446744073709551615 / n : Nat) : Int) < (d : Int) := by omega
  rw [Int.natCast_ediv] at h4
  exact h4

set_option maxHeartbeats 1000000 in
theorem newGeometry_any (n : Nat) (h2 : 2 ≤ n) (h3 : n ≤ 301) (w : World) :
    Calls Yba.prog 15 #[.int .i64 n] w fun e w' => ∃ L g cap : Nat, e = .returned (.agg #[.int .u64 n, .slice (some ⟨g, 0, none⟩) (L + 1) cap]) ∧ L + 1 ≤ cap ∧ cap ≤ maxLen ∧ w.heap.size ≤ g ∧ Geo n L g w' ∧ Below w.heap.size w w' := by
  obtain ⟨i0, hi, hz0, hz1, hz2⟩ := info_parts Yba.info58
  go_enter Yba.func15, Yba.ntmps15
  go_wp2_with (go_at_call 17; refine (newDivider_any _ (by omega) (by omega) _).mono ?_; rintro e w' ⟨rfl, rfl⟩)
  go_loopw [4, 5] (fun v x wr => ∃ k d g cap : Nat, x = .int .u64 d ∧ v = .slice (some ⟨g, 0, none⟩) (k + 1) cap ∧ Rel n w k d v wr) (fun _ x _ => Mx - (intOf x).toNat)
  case atStart => exact ⟨0, 1, _, _, rfl, rfl, rel_start n w⟩
  case round =>
    obtain ⟨k, d, g, cap, rfl, rfl, R⟩ := hrel
    have hd1 : 1 ≤ d := by rw [R.pow]; exact Plain.pow_pos1 n k h2
    have hk : k ≤ 63 := Plain.few n k h2 (by rw [← R.pow]; exact R.fits)
    have hdM := R.fits
    by_cases hlt : d * n ≤ 18446744073709551615
    · obtain ⟨f1, f2, f3, f4⟩ := mul_facts n d h2 hlt hd1
      have hbs := R.size
      have hown := R.own
      have HR : Hid (Rel n w k d _ wr) := R
      have HL : Hid (d * n ≤ 18446744073709551615) := hlt
      clear R hlt
      go_wp2_with (first
        | (go_at_call 17; refine (newDivider_any _ (by omega) (by omega) _).mono ?_; rintro e w' ⟨rfl, rfl⟩)
        | (at_builtin; refine wpList_append_lies _ rfl _ _ 23 rfl (w.heap.size + 1) 58 i0 (.agg #[.int .u64 0, .int .u64 0]) 2 16 Yba.underlying23 hi hz0 hz1 hz2 rfl (by decide) _ _ _ rfl ((hown.alloc _).alloc _) ⟨wr.heap.size + 1, 0, none⟩ 1 1 [.int .u64 ((d : Int) * (n : Int)), .int .u64 (18446744073709551615 / ((d : Int) * (n : Int)))] rfl rfl ?c1 ?c2 (by decide) ?c3 ?c4 ?c5 _ rfl ?_))
      case c1 =>
        exact World.news_of_block (w := (wr.alloc _).alloc _) (B := wr.heap.size + 1) (cs := #[.int .u64 ((d : Int) * (n : Int)), .int .u64 (18446744073709551615 / ((d : Int) * (n : Int)))]) (t := 58) (fr := (0, 0)) (by have := heap_alloc_new (wr.alloc (.cells #[.int .u64 ((d : Int) * (n : Int)), .int .u64 (18446744073709551615 / ((d : Int) * (n : Int)))] 58)) (.cells #[.int .u64 ((d : Int) * (n : Int)), .int .u64 (18446744073709551615 / ((d : Int) * (n : Int)))] 58); simpa using this)
      case c2 => intro u hu; simp at hu; rcases hu with rfl | rfl <;> rfl
      case c3 => unfold maxLen; omega
      case c4 => omega
      case c5 => simp; omega
      · intro g' cap' w1 hown' hgrow hat hlt'
        have R' := rel_step HR.out HL.out hown' hgrow
        clear hown' hgrow hat hlt' hown
        go_wp2
        go_roundw
        case rel => exact ⟨k + 1, d * n, g', cap', by rw [Int.natCast_mul], rfl, R'⟩
        case measure => simp [intOf, Mx]; omega
    · have f1 := mul_facts_not n d h2 hlt
      have c0 := R.c0
      have c1 := R.c1
      have g0 := R.f0
      have g1 := R.f1
      have HR : Hid (Rel n w k d _ wr) := R
      have HL : Hid (¬ d * n ≤ 18446744073709551615) := hlt
      have f2 : decide ((d : Int) ≤ 18446744073709551615 / (n : Int)) = false := by simp; omega
      clear R hlt f1
      go_wp2
      have E := rel_end h2 h3 HR.out HL.out (.int .u64 n) (.slice (some ⟨g, 0, none⟩) (k + 1) cap)
      exact bodyPost_ret (v := .agg #[.int .u64 n, .slice (some ⟨g, 0, none⟩) (k + 1) cap]) (by simp [results, Yba.results15, go_sem, c0, c1]) rfl ⟨k, g, cap, rfl, E⟩

end Go.Proofs.Ybulkzvk
