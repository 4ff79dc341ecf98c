/-
  THE WALK of (geometry).level.
-/
import Derived.Test.YbulkzvkWalksC
import Derived.Deep.QuietTactic
import Derived.BigQuiet
import Derived.WalkSmall
namespace Go.Proofs.Ybulkzvk
open Go.RowKit

/-- What a round knows: level k's cells and numbers. -/
theorem round_facts {n L g k now : Nat} {w : World} (G : Geo n L g w) (hk : k < L) (hnow : now ≤ 18446744073709551615) :
    ∃ d rc q r : Nat, n ^ k = d ∧ now % d = r ∧ w.cell? ⟨g, k * 2, none⟩ = some (.int .u64 d) ∧ w.cell? ⟨g, k * 2 + 1, none⟩ = some (.int .u64 rc) ∧ 1 ≤ d ∧ d ≤ 18446744073709551615 ∧
      (d : Int) * (n : Int) ≤ 18446744073709551615 ∧ 2 * (d : Int) ≤ (d : Int) * (n : Int) ∧ r < d ∧ r ≤ now ∧
      ∀ w : World, Calls Yba.prog 16 #[.agg #[.int .u64 d, .int .u64 rc], .int .u64 now] w fun e w' => e = .returned (.tuple #[.int .u64 q, .int .u64 r]) ∧ Below w.heap.size w w' := by
  have hd := Plain.pow_pos1 n k G.two
  have hf := Plain.pow_mono1 n k L G.two hk
  have hL := G.fits
  have h2 : n ^ k * 2 ≤ n ^ k * n := Nat.mul_le_mul_left _ G.two
  refine ⟨n ^ k, 18446744073709551615 / n ^ k, now / n ^ k, now % n ^ k, rfl, rfl, ?_, ?_, hd, by omega, by rw [← Int.natCast_mul]; omega, by rw [← Int.natCast_mul]; omega, Nat.mod_lt _ hd, Nat.mod_le _ _, ?_⟩
  · rw [Nat.mul_comm]; exact G.width k (by omega)
  · rw [Nat.mul_comm, Int.natCast_ediv]; exact G.recip k (by omega)
  · exact div_any _ _ now hd (by omega) rfl hnow

theorem bel_box {w wr : World} {o : Obj} (h : Below (w.heap.size + 1) (w.alloc o) wr) : Below w.heap.size w wr :=
  ((Below.refl _ _).alloc (Nat.le_refl _) _).trans (h.mono (by omega))
theorem bel_more {B : Nat} {w wr : World} {o : Obj} (h : Below B w wr) (hB : B ≤ wr.heap.size) (m : Nat) : Below B w ((wr.alloc o).drewN m) :=
  below_drewN (h.alloc hB _) m

set_option maxHeartbeats 2000000 in
theorem level_any (n L g cap now due : Nat) (w : World) (G : Geo n L g w) (hc : L + 1 ≤ cap) (hm : cap ≤ maxLen) (hnow : now ≤ 18446744073709551615) (hdue : due ≤ 18446744073709551615) :
    Calls Yba.prog 8 #[.agg #[.int .u64 n, .slice (some ⟨g, 0, none⟩) (L + 1) cap], .int .u64 now, .int .u64 due] w fun e w' => e = .returned (.int .i64 (Plain.lev n L now due : Nat)) ∧ Below w.heap.size w w' := by
  have hm' : cap ≤ 9223372036854775807 := by unfold maxLen at hm; omega
  clear hm
  have hL : L ≤ 63 := Plain.few n L G.two G.fits
  have HG : Hid (Geo n L g w) := G
  clear G
  by_cases h0 : due ≤ now
  · have HF : Hid (Plain.lev n L now due = 0) := by show _ = _; unfold Plain.lev; rw [if_pos h0]
    go_enter Yba.func8, Yba.ntmps8
    go_wp2
    go_ret
    exact ⟨by rw [HF.out]; rfl, (Below.refl _ _).alloc (Nat.le_refl _) _⟩
  · have HF : Hid (Plain.lev n L now due = Plain.search (Plain.hit n now due) L 0) := by show _ = _; unfold Plain.lev; rw [if_neg h0]
    have h0' : now < due := by omega
    have hd0 : decide (due ≤ now) = false := by simp; omega
    clear h0
    go_enter Yba.func8, Yba.ntmps8
    go_wp2
    go_loopw [26] (fun i wr => ∃ k : Nat, k ≤ L ∧ i = .int .i64 k ∧ Hid (Plain.search (Plain.hit n now due) L 0 = Plain.search (Plain.hit n now due) (L - k) k) ∧ Hid (Below (w.heap.size + 1) (w.alloc (.cells #[.int .u64 n, .slice (some ⟨g, 0, none⟩) (L + 1) cap] 25)) wr)) (fun i _ => L - (intOf i).toNat)
    case atStart => exact ⟨0, Nat.zero_le _, rfl, rfl, Below.refl _ _⟩
    case round =>
      obtain ⟨k, hk, rfl, HS, HB⟩ := hrel
      by_cases hlt : k < L
      · have hsz : w.heap.size + 1 ≤ wr.heap.size := by have := HB.out.size; simpa using this
        have Gr : Geo n L g wr := (HG.out.kept ((Below.refl _ _).alloc (Nat.le_refl _) _) HG.out.lt).kept HB.out (by have := HG.out.lt; omega)
        obtain ⟨d, rc, q, r, hd, hr, cw, cr, hd1, hdM, t1, t2, r1, r2, hdiv⟩ := round_facts Gr hlt hnow
        have HD : Hid (∀ w : World, Calls Yba.prog 16 #[.agg #[.int .u64 d, .int .u64 rc], .int .u64 now] w fun e w' => e = .returned (.tuple #[.int .u64 q, .int .u64 r]) ∧ Below w.heap.size w w') := hdiv
        have HH : Hid (Plain.hit n now due k = decide (due - now + r < d * n)) := by show _ = _; unfold Plain.hit; rw [hd, hr]
        have b0 : wr.cell? ⟨w.heap.size, 0, none⟩ = some (.int .u64 n) := by rw [HB.out.cell (by simp)]; simp [go_sem]
        clear hdiv hd hr Gr
        have em : ((d * n : Nat) : Int) = (d : Int) * (n : Int) := Int.natCast_mul d n
        have EM : Hid (((d * n : Nat) : Int) = (d : Int) * (n : Int)) := em
        clear em
        have b1 : (wr.alloc (.cells #[.int .u64 d, .int .u64 rc] 58)).cell? ⟨w.heap.size, 0, none⟩ = some (.int .u64 n) := by rw [((Below.refl (w.heap.size + 1) wr).alloc hsz _).cell (by simp)]; exact b0
        have e1 : IntKind.u64.wrap ((due : Int) - (now : Int)) = (due : Int) - (now : Int) := by rw [IntKind.wrap_u64]; omega
        have e2 : IntKind.u64.wrap ((d : Int) * (n : Int)) = (d : Int) * (n : Int) := by rw [IntKind.wrap_u64]; omega
        go_wp2
        go_quiet (fail)
        clear e1 e2
        by_cases hA : (due : Int) - (now : Int) ≤ (d : Int) * (n : Int) - (d : Int)
        · have HY : Hid (Plain.hit n now due k = true) := by show _ = _; rw [HH.out]; have := EM.out; simp; omega
          go_wp2
          go_ret
          refine ⟨?_, ?_⟩
          · rw [HF.out, HS.out, Plain.search_yes _ _ _ (by omega) HY.out]; rfl
          · exact bel_more (bel_box HB.out) (by omega) _
        · by_cases hBB : (d : Int) * (n : Int) ≤ (due : Int) - (now : Int)
          · have HN : Hid (Plain.hit n now due k = false) := by show _ = _; rw [HH.out]; have := EM.out; simp; omega
            go_wp2
            go_roundw
            case rel => exact ⟨k + 1, by omega, by go_num, HS.out.trans (Plain.search_no _ _ _ (by omega) HN.out), bel_more HB.out hsz _⟩
            case measure => simp [intOf]; omega
          · have hr3 : (r : Int) ≤ (now : Int) := by omega
            by_cases hC : (due : Int) - (now : Int) + (r : Int) < (d : Int) * (n : Int)
            · have HY : Hid (Plain.hit n now due k = true) := by show _ = _; rw [HH.out]; have := EM.out; simp; omega
              go_wp2_with (go_at_call 16; refine (HD.out _).mono ?_; rintro e w1 ⟨rfl, hw1⟩)
              go_ret
              refine ⟨?_, ?_⟩
              · rw [HF.out, HS.out, Plain.search_yes _ _ _ (by omega) HY.out]; rfl
              · exact (bel_more (bel_box HB.out) (by omega) _).trans (hw1.mono (by simp; omega))
            · have HN : Hid (Plain.hit n now due k = false) := by show _ = _; rw [HH.out]; have := EM.out; simp; omega
              go_wp2_with (go_at_call 16; refine (HD.out _).mono ?_; rintro e w1 ⟨rfl, hw1⟩)
              go_roundw
              case rel => exact ⟨k + 1, by omega, by go_num, HS.out.trans (Plain.search_no _ _ _ (by omega) HN.out), (bel_more HB.out hsz _).trans (hw1.mono (by simp; omega))⟩
              case measure => simp [intOf]; omega
      · have hkL : k = L := by omega
        subst hkL
        go_wp2
        go_ret
        refine ⟨?_, bel_box HB.out⟩
        rw [HF.out, HS.out, Nat.sub_self]
        rfl

end Go.Proofs.Ybulkzvk
