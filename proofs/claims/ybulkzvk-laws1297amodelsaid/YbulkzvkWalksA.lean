/-
  THE WALKS of the leaves: math/bits.Mul64, newDivider, (divider).div.
-/
import Derived.Test.YbulkzvkRows
import Derived.Test.YbulkzvkPlain
import Derived.WalkKit
import Derived.WalkSpells
import Derived.Lib.Mul64
import Derived.Laws.Bits64b
namespace Go.Proofs.Ybulkzvk
open Go.RowKit

namespace Mul
theorem maskN (a : Nat) (ha : a < 18446744073709551616) : bits .and .u64 (a : Int) 4294967295 = ((a % 4294967296 : Nat) : Int) := by
  have h := bits_and_u64_nat a 4294967295 ha (by omega)
  have e : a &&& 4294967295 = a % 4294967296 := Nat.and_two_pow_sub_one_eq_mod a 32
  rw [e] at h
  exact h
theorem divN (a : Nat) : (a : Int) / 4294967296 = ((a / 4294967296 : Nat) : Int) := by omega
theorem mulN (a b : Nat) : (a : Int) * (b : Int) = ((a * b : Nat) : Int) := (Int.natCast_mul a b).symm
theorem addN (a b : Nat) : (a : Int) + (b : Int) = ((a + b : Nat) : Int) := (Int.natCast_add a b).symm
theorem wrapN (a : Nat) (ha : a < 18446744073709551616) : IntKind.u64.wrap (a : Int) = (a : Int) := by rw [IntKind.wrap_u64]; omega
theorem wrapM (a : Nat) : IntKind.u64.wrap (a : Int) = ((a % 18446744073709551616 : Nat) : Int) := by rw [IntKind.wrap_u64]; omega
end Mul

set_option maxHeartbeats 1000000 in
theorem mul64 (x y : Nat) (hx : x < 18446744073709551616) (hy : y < 18446744073709551616) (w : World) :
    Calls Yba.prog 22 #[.int .u64 x, .int .u64 y] w fun e w' => e = .returned (.tuple #[.int .u64 ((x * y / 18446744073709551616 : Nat) : Int), .int .u64 ((x * y % 18446744073709551616 : Nat) : Int)]) ∧ w' = w := by
  obtain ⟨bd, bt, bw, hhi⟩ := Lib.mul64_hi x y hx hy
  have ba := Lib.half_mul_le (a := x / 4294967296) (b := y / 4294967296) (by omega) (by omega)
  have bb := Lib.half_mul_le (a := x / 4294967296) (b := y % 4294967296) (by omega) (by omega)
  have bc := Lib.half_mul_le (a := x % 4294967296) (b := y / 4294967296) (by omega) (by omega)
  have ba' : x / 4294967296 * (y / 4294967296) < 18446744073709551616 := by omega
  have bb' : x / 4294967296 * (y % 4294967296) < 18446744073709551616 := by omega
  have bc' : x % 4294967296 * (y / 4294967296) < 18446744073709551616 := by omega
  have bh1 : x / 4294967296 * (y / 4294967296) + (x / 4294967296 * (y % 4294967296) + x % 4294967296 * (y % 4294967296) / 4294967296) / 4294967296 < 18446744073709551616 := by omega
  have bh : x / 4294967296 * (y / 4294967296) + (x / 4294967296 * (y % 4294967296) + x % 4294967296 * (y % 4294967296) / 4294967296) / 4294967296 + ((x / 4294967296 * (y % 4294967296) + x % 4294967296 * (y % 4294967296) / 4294967296) % 4294967296 + x % 4294967296 * (y / 4294967296)) / 4294967296 < 18446744073709551616 := by omega
  go_enter Yba.func22, Yba.ntmps22
  go_wp2
  simp only [Mul.maskN x hx, Mul.maskN y hy, Mul.divN, Mul.mulN, Mul.addN, Mul.wrapN _ bd, Mul.wrapN _ bb', Mul.wrapN _ bt, Mul.maskN _ bt, Mul.wrapN _ bc', Mul.wrapN _ bw, Mul.wrapN _ ba', Mul.wrapN _ bh1, Mul.wrapN _ bh, Mul.wrapM (x * y)]
  rw [hhi]
  go_ret2
  exact ⟨rfl, rfl⟩

/-- newDivider. -/
theorem newDivider_any (d : Int) (hd : 1 ≤ d) (_hd' : d ≤ 18446744073709551615) (w : World) :
    Calls Yba.prog 17 #[.int .u64 d] w fun e w' => e = .returned (.agg #[.int .u64 d, .int .u64 (18446744073709551615 / d)]) ∧ w' = w.alloc (.cells #[.int .u64 d, .int .u64 (18446744073709551615 / d)] 58) := by
  go_enter Yba.func17, Yba.ntmps17
  go_wp2
  exact bodyPost_ret (v := .agg #[.int .u64 d, .int .u64 (18446744073709551615 / d)]) (by simp [results, Yba.results17, go_sem]) rfl ⟨rfl, rfl⟩

/-- (divider).div: the quotient and the remainder. -/
theorem div_any (d rc x : Nat) (hd : 1 ≤ d) (hd' : d ≤ 18446744073709551615) (hrc : rc = 18446744073709551615 / d) (hx : x ≤ 18446744073709551615) (w : World) :
    Calls Yba.prog 16 #[.agg #[.int .u64 d, .int .u64 rc], .int .u64 x] w fun e w' => e = .returned (.tuple #[.int .u64 ((x / d : Nat) : Int), .int .u64 ((x % d : Nat) : Int)]) ∧ Below w.heap.size w w' := by
  have hrc' : rc ≤ 18446744073709551615 := by rw [hrc]; exact Nat.div_le_self _ _
  obtain ⟨h1, h2⟩ := Plain.recip_mul d rc x hd hrc hx
  have hm := mul64 x rc (by omega) (by omega)
  have HM : Hid (∀ w : World, Calls Yba.prog 22 #[.int .u64 x, .int .u64 rc] w fun e w' => e = .returned (.tuple #[.int .u64 ((x * rc / 18446744073709551616 : Nat) : Int), .int .u64 ((x * rc % 18446744073709551616 : Nat) : Int)]) ∧ w' = w) := hm
  clear hm hrc
  generalize x * rc / 18446744073709551616 = q at *
  generalize x * rc % 18446744073709551616 = lo at *
  have e2 : (q + 2) * d = q * d + d + d := by rw [Nat.add_mul]; omega
  have e3 : (q + 1) * d = q * d + d := by rw [Nat.add_mul]; omega
  have b1 : (q : Int) * (d : Int) ≤ x := by rw [← Int.natCast_mul]; omega
  have b0 : (0 : Int) ≤ (q : Int) * (d : Int) := by rw [← Int.natCast_mul]; omega
  have ec : (q : Int) * (d : Int) = ((q * d : Nat) : Int) := by rw [Int.natCast_mul]
  have hq : q ≤ x := by
    have : q * 1 ≤ q * d := Nat.mul_le_mul_left _ hd
    omega
  by_cases hc : x < (q + 1) * d
  · obtain ⟨f1, f2⟩ := Plain.div_of x d q hd h1 hc
    have t1 : (x : Int) - (q : Int) * (d : Int) < d := by omega
    have F : Hid (((x / d : Nat) : Int) = q ∧ ((x % d : Nat) : Int) = (x : Int) - (q : Int) * (d : Int)) := ⟨by rw [f1], by rw [f2]; omega⟩
    clear f1 f2 e2 e3 ec h1 h2 hc
    go_enter Yba.func16, Yba.ntmps16
    go_wp2_with (go_at_call 22; refine (HM.out _).mono ?_; rintro e w' ⟨rfl, rfl⟩)
    go_ret2
    exact ⟨by rw [F.out.1, F.out.2]; rfl, (Below.refl _ _).alloc (Nat.le_refl _) _⟩
  · obtain ⟨f1, f2⟩ := Plain.div_of x d (q + 1) hd (by omega) (by omega)
    have t1 : (d : Int) ≤ (x : Int) - (q : Int) * (d : Int) := by omega
    have hx1 : q + 1 ≤ x := by
      have : q * 1 ≤ q * d := Nat.mul_le_mul_left _ hd
      clear f1 f2
      omega
    have F : Hid (((x / d : Nat) : Int) = q + 1 ∧ ((x % d : Nat) : Int) = (x : Int) - (q : Int) * (d : Int) - d) := ⟨by rw [f1]; omega, by rw [f2, e3]; omega⟩
    clear f1 f2 e2 e3 ec h1 h2 hc
    go_enter Yba.func16, Yba.ntmps16
    go_wp2_with (go_at_call 22; refine (HM.out _).mono ?_; rintro e w' ⟨rfl, rfl⟩)
    go_ret2
    exact ⟨by rw [F.out.1, F.out.2]; rfl, (Below.refl _ _).alloc (Nat.le_refl _) _⟩

end Go.Proofs.Ybulkzvk
