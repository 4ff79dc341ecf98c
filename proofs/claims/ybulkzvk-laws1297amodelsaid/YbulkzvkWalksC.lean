/-
  THE WALK of zzs1297ageo.
-/
import Derived.Test.YbulkzvkWalksB
namespace Go.Proofs.Ybulkzvk
open Go.RowKit

theorem slots_of (a : Int) : ∃ n : Nat, 2 ≤ n ∧ n ≤ 301 ∧ wrap64 (2 + wrap64 ((IntKind.u64.wrap a).tmod 300)) = (n : Int) := by
  have h0 : 0 ≤ IntKind.u64.wrap a := by rw [IntKind.wrap_u64]; omega
  have h1 : (IntKind.u64.wrap a).tmod 300 = (IntKind.u64.wrap a) % 300 := Int.tmod_eq_emod_of_nonneg h0
  rw [h1]
  generalize IntKind.u64.wrap a = u at *
  have h2 : wrap64 (u % 300) = u % 300 := by unfold wrap64; omega
  rw [h2]
  refine ⟨(2 + u % 300).toNat, by omega, by omega, ?_⟩
  unfold wrap64
  omega

theorem Geo.kept {n L g B : Nat} {w w' : World} (h : Geo n L g w) (hb : Below B w w') (hg : g < B) : Geo n L g w' :=
  ⟨fun j hj => by rw [hb.cell hg]; exact h.width j hj, fun j hj => by rw [hb.cell hg]; exact h.recip j hj, h.fits, h.last, h.two, h.small, by have := hb.size; have := h.lt; omega⟩

theorem Geo.setCell {n L g : Nat} {w : World} (h : Geo n L g w) {a : Addr} (ha : a.block ≠ g) (u : Value) : Geo n L g (w.setCell a u) := by
  have e : ∀ o, (w.setCell a u).cell? ⟨g, o, none⟩ = w.cell? ⟨g, o, none⟩ := fun o => World.cell?_of_block (w := w) (Below.heap_setCell w a u g (fun e => ha e.symm))
  exact ⟨fun j hj => by rw [e]; exact h.width j hj, fun j hj => by rw [e]; exact h.recip j hj, h.fits, h.last, h.two, h.small, by have := h.lt; simpa [World.setCell] using this⟩

set_option maxHeartbeats 1000000 in
theorem geo_any (a : Int) (w : World) :
    Calls Yba.prog 7 #[.int .i64 a] w fun e w' => ∃ n L g cap : Nat, e = .returned (.agg #[.int .u64 n, .slice (some ⟨g, 0, none⟩) (L + 1) cap]) ∧ L + 1 ≤ cap ∧ cap ≤ maxLen ∧ w.heap.size ≤ g ∧ Geo n L g w' ∧ Below w.heap.size w w' := by
  obtain ⟨n, h2, h3, hn⟩ := slots_of a
  have HN : Hid (wrap64 (2 + wrap64 ((IntKind.u64.wrap a).tmod 300)) = (n : Int)) := hn
  clear hn
  go_enter Yba.func7, Yba.ntmps7
  go_wp2_with fail
  rw [HN.out]
  refine (newGeometry_any n h2 h3 _).mono ?_
  rintro e w1 ⟨L, g, cap, rfl, hc, hm, hg, G, hb⟩
  have hg' : w.heap.size < g := by simp at hg; omega
  have hb' := hb
  simp at hb'
  have c0 : w1.cell? ⟨w.heap.size, 0, none⟩ = some (.int .u64 0) := by rw [hb'.cell (by simp)]; simp [go_sem]
  have c1 : w1.cell? ⟨w.heap.size, 1, none⟩ = some (.slice none 0 0) := by rw [hb'.cell (by simp)]; simp [go_sem]
  have f0 : w1.frozen? ⟨w.heap.size, 0, none⟩ = false := by rw [hb'.frozen (by simp)]; simp [go_sem]
  have f1 : w1.frozen? ⟨w.heap.size, 1, none⟩ = false := by rw [hb'.frozen (by simp)]; simp [go_sem]
  have HB : Hid (Below w.heap.size w w1) := ((Below.refl _ _).alloc (Nat.le_refl _) _).trans (hb'.mono (by omega))
  have HG : Hid (Geo n L g w1) := G
  clear G hb hb'
  go_wp2
  exact bodyPost_ret (v := .agg #[.int .u64 n, .slice (some ⟨g, 0, none⟩) (L + 1) cap]) (by simp [results, Yba.results7, go_sem, c0, c1]) rfl
    ⟨n, L, g, cap, rfl, hc, hm, by omega, (HG.out.setCell (by simp; omega) _).setCell (by simp; omega) _, (HB.out.setCell (by simp) _).setCell (by simp) _⟩
end Go.Proofs.Ybulkzvk
