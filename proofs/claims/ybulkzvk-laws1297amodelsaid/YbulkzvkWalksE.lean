/-
  THE WALK of zzs1297amodel, the restatement.
-/
import Derived.Test.YbulkzvkWalksD
namespace Go.Proofs.Ybulkzvk
open Go.RowKit

set_option maxHeartbeats 2000000 in
theorem model_any (n L g cap now due : Nat) (w : World) (G : Geo n L g w) (hc : L + 1 ≤ cap) (hm : cap ≤ maxLen) (hnow : now ≤ 18446744073709551615) (hdue : due ≤ 18446744073709551615) :
    Calls Yba.prog 9 #[.agg #[.int .u64 n, .slice (some ⟨g, 0, none⟩) (L + 1) cap], .int .u64 now, .int .u64 due] w fun e w' => e = .returned (.int .i64 (Plain.lev n L now due : Nat)) ∧ Below w.heap.size w w' := by
  have hm' : cap ≤ 9223372036854775807 := by unfold maxLen at hm; omega
  clear hm
  have hL : L ≤ 63 := Plain.few n L G.two G.fits
  have HG : Hid (Geo n L g w) := G
  clear G
  by_cases h0 : due ≤ now
  · have HF : Hid (Plain.lev n L now due = 0) := by show _ = _; unfold Plain.lev; rw [if_pos h0]
    go_enter Yba.func9, Yba.ntmps9
    go_wp2
    go_ret
    exact ⟨by rw [HF.out]; rfl, (Below.refl _ _).alloc (Nat.le_refl _) _⟩
  · have HF : Hid (Plain.lev n L now due = Plain.search (Plain.hit n now due) L 0) := by show _ = _; unfold Plain.lev; rw [if_neg h0]
    have h0' : now < due := by omega
    have hd0 : decide (due ≤ now) = false := by simp; omega
    clear h0
    go_enter Yba.func9, Yba.ntmps9
    go_wp2
    go_loop [8] (fun i => ∃ k : Nat, k ≤ L ∧ i = .int .i64 k ∧ Hid (Plain.search (Plain.hit n now due) L 0 = Plain.search (Plain.hit n now due) (L - k) k)) (fun i => L - (intOf i).toNat)
    case atStart => exact ⟨0, Nat.zero_le _, rfl, rfl⟩
    case round =>
      obtain ⟨k, hk, rfl, HS⟩ := hrel
      by_cases hlt : k < L
      · have hgl := HG.out.lt
        obtain ⟨d, rc, q, r, hd, hr, cw, cr, hd1, hdM, t1, t2, r1, r2, hdiv⟩ := round_facts HG.out hlt hnow
        have HH : Hid (Plain.hit n now due k = decide (due - now + r < d * n)) := by show _ = _; unfold Plain.hit; rw [hd, hr]
        have EM : Hid (((d * n : Nat) : Int) = (d : Int) * (n : Int)) := Int.natCast_mul d n
        have ER : Hid ((r : Int) = (now : Int) % (d : Int)) := by show _ = _; rw [← hr, Int.natCast_emod]
        have er := ER.out
        have s1 : 0 ≤ (now : Int) % (d : Int) := by rw [← er]; omega
        have s2 : (now : Int) % (d : Int) ≤ (now : Int) := by rw [← er]; omega
        clear hdiv hd hr cr er r1 r2
        by_cases hC : (due : Int) - ((now : Int) - (now : Int) % (d : Int)) < (d : Int) * (n : Int)
        · have HY : Hid (Plain.hit n now due k = true) := by show _ = _; rw [HH.out]; have := EM.out; have := ER.out; simp; omega
          go_wp2
          go_ret
          refine ⟨?_, (Below.refl _ _).alloc (Nat.le_refl _) _⟩
          rw [HF.out, HS.out, Plain.search_yes _ _ _ (by omega) HY.out]; rfl
        · have HN : Hid (Plain.hit n now due k = false) := by show _ = _; rw [HH.out]; have := EM.out; have := ER.out; simp; omega
          go_wp2
          go_round
          case rel => exact ⟨k + 1, by omega, by go_num, HS.out.trans (Plain.search_no _ _ _ (by omega) HN.out)⟩
          case measure => simp [intOf]; omega
      · have hkL : k = L := by omega
        subst hkL
        go_wp2
        go_ret
        refine ⟨?_, (Below.refl _ _).alloc (Nat.le_refl _) _⟩
        rw [HF.out, HS.out, Nat.sub_self]
        rfl

end Go.Proofs.Ybulkzvk
