/-
  THE WALK of zzs1307bhas and of LawS1307BSetCalls' function literal.
-/
import Derived.Test.YbulkaaauRows
import Derived.WalkKit
import Derived.WalkSpells
import Derived.OneCell
import Derived.Deep.AppendLies
namespace Go.Proofs.Ybulkaaau.Has
open Go.RowKit

/-- Is b among the numbers? -/
def has (zs : List Int) (b : Nat) : Bool := zs.any fun z => z == (b : Int)

/-- What is told of the set: behind a length above 0 it lies at a plain address. -/
def Told (w : World) (a : Option Addr) (len : Nat) (zs : List Int) : Prop :=
  0 < len → ∃ b off, a = some ⟨b, off, none⟩ ∧ b < w.heap.size ∧ ∀ j, j < len → w.cell? ⟨b, off + j, none⟩ = some (.int .u8 (zs.getD j 0))

theorem Told.kept {w w' : World} {a : Option Addr} {len : Nat} {zs : List Int} {B : Nat} (h : Told w a len zs) (hb : Below B w w') (hB : w.heap.size ≤ B) : Told w' a len zs := fun hp => by
  obtain ⟨b, off, e, hlt, hc⟩ := h hp
  exact ⟨b, off, e, by have := hb.size; omega, fun j hj => by rw [hb.cell (by show b < B; omega)]; exact hc j hj⟩

theorem take_one (zs : List Int) (k : Nat) (h : k < zs.length) : zs.take (k + 1) = zs.take k ++ [zs.getD k 0] := by
  rw [List.take_succ_eq_append_getElem h]
  simp [List.getD, List.getElem?_eq_getElem h]

theorem has_step {zs : List Int} {k b : Nat} (hk : k < zs.length) (h : has (zs.take k) b = false) (hn : (zs.getD k 0 == (b : Int)) = false) : has (zs.take (k + 1)) b = false := by
  rw [take_one zs k hk]
  unfold has at *
  rw [List.any_append, h]
  simpa using hn
theorem has_yes {zs : List Int} {k b : Nat} (hk : k < zs.length) (hn : (zs.getD k 0 == (b : Int)) = true) : has zs b = true := by
  unfold has
  rw [List.any_eq_true]
  have : zs.getD k 0 ∈ zs := by simp [List.getD, List.getElem?_eq_getElem hk]
  exact ⟨_, this, hn⟩

set_option maxHeartbeats 1000000 in
theorem has_any (a : Option Addr) (len cap b : Nat) (zs : List Int) (w : World) (hz : zs.length = len) (hlen : len ≤ 1024) (HT : Hid (Told w a len zs)) :
    Calls Yba.prog 10 #[.slice a len cap, .int .u8 b] w fun e w' => e = .returned (.bool (has zs b)) ∧ w' = w := by
  go_enter Yba.func10, Yba.ntmps10
  go_wp2
  go_loop [9] (fun i => ∃ k : Nat, k ≤ len ∧ i = .int .i64 k ∧ Hid (has (zs.take k) b = false)) (fun i => len - (intOf i).toNat)
  case atStart => exact ⟨0, Nat.zero_le _, rfl, by show _ = _; simp [has]⟩
  case round =>
    obtain ⟨k, hk, rfl, HN⟩ := hrel
    by_cases hlt : k < len
    · obtain ⟨g, off, rfl, hb, hc⟩ := HT.out (by omega)
      have hck := hc k hlt
      obtain ⟨z, hzz⟩ : ∃ z, z = zs.getD k 0 := ⟨_, rfl⟩
      rw [← hzz] at hck
      have HZ : Hid (z = zs.getD k 0) := hzz
      clear hzz hc
      cases he : (z == (b : Int)) with
      | true =>
        have HY : Hid (has zs b = true) := has_yes (k := k) (by omega) (by rw [← HZ.out]; exact he)
        go_wp2
        go_ret
        exact ⟨by rw [HY.out]; rfl, rfl⟩
      | false =>
        have HY : Hid (has (zs.take (k + 1)) b = false) := has_step (by omega) HN.out (by rw [← HZ.out]; exact he)
        go_wp2
        go_round
        case rel => exact ⟨k + 1, by omega, by go_num, HY⟩
        case measure => simp [intOf]; omega
    · have hkl : k = len := by omega
      subst hkl
      have HF : Hid (has zs b = false) := by have h := HN.out; rw [← hz, List.take_length] at h; exact h
      go_wp2
      go_ret
      exact ⟨by rw [HF.out]; rfl, rfl⟩

theorem Yba.info5 : (Yba.prog.info? 5).map (fun i => (i.zero, i.size, i.bytes)) = some (some (.int .u8 0), 1, 1) := by kernel_rfl

/-- The first c bytes, as cells. -/
def firsts (c : Nat) : List Value := (List.range c).map fun j : Nat => Value.int .u8 (j : Int)
theorem firsts_succ (c : Nat) : firsts (c + 1) = firsts c ++ [.int .u8 (c : Int)] := by simp [firsts, List.range_succ]
theorem firsts_at (c j : Nat) (h : j < c) : (firsts c)[j]? = some (.int .u8 (j : Int)) := by simp [firsts, h]

/-- What holds behind c calls: the set and the log lie in blocks of their own; the log's row lies behind the table's block. -/
structure Inv (W : World) (a : Option Addr) (len cap : Nat) (c : Nat) (w : World) : Prop where
  set : w.heap[W.heap.size]? = some (.cells #[.slice a len cap] 22 (0, 0))
  log : ∃ v, w.heap[W.heap.size + 1]? = some (.cells #[v] 22 (0, 0)) ∧ w.ownsRow (W.heap.size + 3) 5 1 v c (firsts c)
  below : Below W.heap.size W w
  size : W.heap.size + 3 ≤ w.heap.size

theorem Inv.grown {W : World} {a : Option Addr} {len cap c : Nat} {w w' : World} (h : Inv W a len cap c w) (hw : w.grownBy w' (some (W.heap.size + 2))) : Inv W a len cap c w' := by
  have hs := h.size
  obtain ⟨v, hv, ho⟩ := h.log
  refine ⟨?_, ⟨v, ?_, ?_⟩, h.below.grown hw (by omega) (fun k hk => by simp at hk; omega), by have := hw.size; omega⟩
  · rw [hw.block _ (by omega) (by simp)]; exact h.set
  · rw [hw.block _ (by omega) (by simp)]; exact hv
  · refine ho.kept hw ?_
    cases e : v.ownBlock with
    | none => exact .inl rfl
    | some g => right; have := (ho.lt g e).1; simp; omega

/-- What the append and the store of the log make of it. -/
theorem Inv.step {W : World} {a : Option Addr} {len cap c : Nat} {w w1 : World} {v : Value} {o : Obj} {g cap' : Nat} (h : Inv W a len cap c w) (hv : w.heap[W.heap.size + 1]? = some (.cells #[v] 22 (0, 0))) (ho : w.ownsRow (W.heap.size + 3) 5 1 v c (firsts c))
    (hown : w1.ownsRow (W.heap.size + 3) 5 1 (.slice (some ⟨g, 0, none⟩) (c + 1) cap') (c + 1) (firsts c ++ [.int .u8 (c : Int)])) (hgrow : (w.alloc o).grownBy w1 v.ownBlock) :
    Inv W a len cap (c + 1) (w1.setCell ⟨W.heap.size + 1, 0, none⟩ (.slice (some ⟨g, 0, none⟩) (c + 1) cap')) := by
  have hs := h.size
  have hne : ∀ k, k < W.heap.size + 3 → some k ≠ v.ownBlock := fun k hk e => by have := (ho.lt k e.symm).1; omega
  have hblk : ∀ k, k < W.heap.size + 3 → w1.heap[k]? = w.heap[k]? := fun k hk => by
    rw [hgrow.block k (by simp; omega) (hne k hk), Below.heap_alloc _ _ _ (by omega)]
  refine ⟨?_, ⟨.slice (some ⟨g, 0, none⟩) (c + 1) cap', ?_, ?_⟩, ?_, ?_⟩
  · rw [heap_setCell_other _ _ _ _ (by simp), hblk _ (by omega)]; exact h.set
  · have h1 : w1.heap[W.heap.size + 1]? = some (.cells #[v] 22 (0, 0)) := by rw [hblk _ (by omega)]; exact hv
    rw [heap_setCell_same w1 _ 0 _ 22 _ h1]
    simp
  · rw [firsts_succ]
    exact ownsRow_setCell_below hown (by simp) _
  · refine (((h.below.alloc (by omega) o).grown hgrow (by simp; omega) (fun k hk => ?_))).setCell (by simp) _
    have := (ho.lt k hk).1
    omega
  · have := hgrow.size
    simp [World.setCell] at *
    omega

set_option maxHeartbeats 1000000 in
theorem closure (W : World) (a : Option Addr) (len cap : Nat) (zs : List Int) (hz : zs.length = len) (hlen : len ≤ 1024) (HT : Hid (Told W a len zs)) (c : Nat) (cls : Array Value) (w : World) (hc : c < 256) (HI : Hid (Inv W a len cap c w))
    (HB : Hid (w.heap[W.heap.size + 2]? = some (.cells cls 34 (0, 0)))) :
    Calls Yba.prog 9 #[.int .u8 c, .pointer (some ⟨W.heap.size + 1, 0, none⟩), .pointer (some ⟨W.heap.size, 0, none⟩)] w fun e w' => e = .returned (.bool (has zs c)) ∧ Inv W a len cap (c + 1) w' ∧ w'.heap[W.heap.size + 2]? = some (.cells cls 34 (0, 0)) := by
  obtain ⟨i0, hi, hz0, hz1, hz2⟩ := info_parts Yba.info5
  have hs := HI.out.size
  obtain ⟨v, hv, ho⟩ := HI.out.log
  have hd : (c : Int) < 256 := by omega
  have hd0 : (0 : Int) ≤ (c : Int) := by omega
  have c1 : w.cell? ⟨W.heap.size + 1, 0, none⟩ = some v := (cell_of_row w _ 0 _ 22 (0, 0) hv).trans (by simp)
  have HV : Hid (w.heap[W.heap.size + 1]? = some (.cells #[v] 22 (0, 0))) := hv
  have HO : Hid (w.ownsRow (W.heap.size + 3) 5 1 v c (firsts c)) := ho
  clear hv ho
  go_enter Yba.func9, Yba.ntmps9
  go_wp2_with (at_builtin; refine wpList_append_lies _ rfl _ _ 22 rfl (W.heap.size + 3) 5 i0 (.int .u8 0) 1 1 Yba.underlying22 hi hz0 hz1 hz2 rfl (by decide) _ _ _ rfl (HO.out.alloc _) ⟨w.heap.size, 0, none⟩ 1 1 [.int .u8 (c : Int)] rfl rfl ?c1 ?c2 (by decide) ?c3 ?c4 ?c5 _ rfl ?_)
  case c1 => exact cell_one_new _ _ _
  case c2 => intro u hu; simp at hu; subst hu; rfl
  case c3 => unfold maxLen; omega
  case c4 => omega
  case c5 => simp; omega
  · intro g cap' w1 hown hgrow hat hlt
    have hne : ∀ k, k < W.heap.size + 3 → some k ≠ v.ownBlock := fun k hk e => by have := (HO.out.lt k e.symm).1; omega
    have hblk : ∀ k, k < W.heap.size + 3 → w1.heap[k]? = w.heap[k]? := fun k hk => by
      rw [hgrow.block k (by simp; omega) (hne k hk), Below.heap_alloc _ _ _ (by omega)]
    have d1 : w1.cell? ⟨W.heap.size + 1, 0, none⟩ = some v := by rw [World.cell?_of_block (w := w) (hblk _ (by simp))]; exact c1
    have f1 : w1.frozen? ⟨W.heap.size + 1, 0, none⟩ = false := by rw [World.frozen?_of_block (w := w) (hblk _ (by simp))]; exact frozen_of_row w _ 0 _ 22 HV.out
    have d0 : w1.cell? ⟨W.heap.size, 0, none⟩ = some (.slice a len cap) := by
      rw [World.cell?_of_block (w := w) (hblk _ (by simp)), cell_of_row w _ 0 _ 22 (0, 0) HI.out.set]
      simp
    have HS : Hid (Inv W a len cap (c + 1) (w1.setCell ⟨W.heap.size + 1, 0, none⟩ (.slice (some ⟨g, 0, none⟩) (c + 1) cap'))) := HI.out.step HV.out HO.out hown hgrow
    have HB2 : Hid ((w1.setCell ⟨W.heap.size + 1, 0, none⟩ (.slice (some ⟨g, 0, none⟩) (c + 1) cap')).heap[W.heap.size + 2]? = some (.cells cls 34 (0, 0))) := by
      show _ = _
      rw [heap_setCell_other _ _ _ _ (by simp), hblk _ (by omega)]; exact HB.out
    have HT2 : Hid (Told (w1.setCell ⟨W.heap.size + 1, 0, none⟩ (.slice (some ⟨g, 0, none⟩) (c + 1) cap')) a len zs) := HT.out.kept HS.out.below (Nat.le_refl _)
    clear hown hgrow hat hlt hne hblk c1
    go_wp2_with (go_at_call 10; refine (has_any a len cap c zs _ hz hlen HT2).mono ?_; rintro e w2 ⟨rfl, rfl⟩)
    go_ret
    exact ⟨rfl, HS.out, HB2.out⟩

end Go.Proofs.Ybulkaaau.Has
