import Derived.Test.Qxb6600480aModsRows
import Derived.WalkKit
import Derived.ProofKit
import Derived.OpenShut
import Derived.ShutString
import Derived.Laws.Bits64
namespace Go.Proofs.Qxb6600480aMods
open Go.ChangeShapes Go.WideShapes Go.ChangeAt Go.RowKit
set_option linter.unusedVariables false

/-! ### What the Go text computes -/
/-- x ^ (x >> 33) -/
def xs (x : Int) : Int := bits BinOp.xor IntKind.u64 x (x / 8589934592)
/-- x * c on 64 bits -/
def mulc (c x : Int) : Int := IntKind.u64.wrap (x * c)
/-- mix -/
def mixF (x : Int) : Int := xs (mulc 14181476777654086739 (xs (mulc 18397679294719823053 (xs x))))
/-- zzInv's loop after k rounds -/
def invN (a : Int) : Nat → Int
  | 0 => a
  | k + 1 => IntKind.u64.wrap (invN a k * IntKind.u64.wrap (2 - IntKind.u64.wrap (a * invN a k)))
def unmixF (y : Int) : Int := xs (mulc (invN 18397679294719823053 5) (xs (mulc (invN 14181476777654086739 5) (xs y))))

/-! ### The plain laws -/
def Word (x : Int) : Prop := 0 ≤ x ∧ x < 18446744073709551616

theorem mulc_eq (c x : Int) : mulc c x = (x * c) % 18446744073709551616 := by
  unfold mulc; rw [IntKind.wrap_u64]
theorem mulc_word (c x : Int) : Word (mulc c x) := by
  rw [mulc_eq]; exact ⟨by omega, by omega⟩

theorem xs_nat (n : Nat) (h : n < 18446744073709551616) : xs (n : Int) = ((n ^^^ (n >>> 33) : Nat) : Int) := by
  unfold xs
  have := xorShift_u64 n 8589934592 h
  rw [Nat.shiftRight_eq_div_pow]
  exact this
theorem xorshift_lt (n : Nat) (h : n < 18446744073709551616) : n ^^^ (n >>> 33) < 18446744073709551616 := by
  have h2 : n >>> 33 < 2 ^ 64 := by
    rw [Nat.shiftRight_eq_div_pow]; exact Nat.lt_of_le_of_lt (Nat.div_le_self _ _) h
  exact Nat.xor_lt_two_pow (n := 64) h h2
theorem xorshift_twice (n : Nat) (h : n < 18446744073709551616) : (n ^^^ (n >>> 33)) ^^^ ((n ^^^ (n >>> 33)) >>> 33) = n := by
  rw [Nat.shiftRight_xor_distrib, ← Nat.shiftRight_add]
  have h0 : n >>> (33 + 33) = 0 := by
    rw [Nat.shiftRight_eq_div_pow]; exact Nat.div_eq_of_lt (Nat.lt_of_lt_of_le h (by decide))
  rw [h0, Nat.xor_zero, Nat.xor_assoc, Nat.xor_self, Nat.xor_zero]
theorem xs_word (x : Int) (h : Word x) : Word (xs x) := by
  obtain ⟨h0, h1⟩ := h
  obtain ⟨n, rfl⟩ := Int.eq_ofNat_of_zero_le h0
  rw [xs_nat n (by omega)]
  have := xorshift_lt n (by omega)
  exact ⟨by omega, by omega⟩
theorem xs_xs (x : Int) (h : Word x) : xs (xs x) = x := by
  obtain ⟨h0, h1⟩ := h
  obtain ⟨n, rfl⟩ := Int.eq_ofNat_of_zero_le h0
  rw [xs_nat n (by omega), xs_nat _ (xorshift_lt n (by omega)), xorshift_twice n (by omega)]

theorem mulc_mulc (c d x : Int) (hcd : (c * d) % 18446744073709551616 = 1) (h : Word x) : mulc d (mulc c x) = x := by
  rw [mulc_eq, mulc_eq]
  have e : (x * c % 18446744073709551616 * d) % 18446744073709551616 = x % 18446744073709551616 := by
    rw [Int.mul_emod, Int.emod_emod, ← Int.mul_emod, Int.mul_assoc, Int.mul_emod, hcd, Int.mul_one, Int.emod_emod]
  rw [e]
  exact Int.emod_eq_of_lt h.1 h.2

theorem inv1 : (18397679294719823053 * invN 18397679294719823053 5) % 18446744073709551616 = 1 := by decide +kernel
theorem inv2 : (14181476777654086739 * invN 14181476777654086739 5) % 18446744073709551616 = 1 := by decide +kernel
theorem inv1' : (invN 18397679294719823053 5 * 18397679294719823053) % 18446744073709551616 = 1 := by rw [Int.mul_comm]; exact inv1
theorem inv2' : (invN 14181476777654086739 5 * 14181476777654086739) % 18446744073709551616 = 1 := by rw [Int.mul_comm]; exact inv2

theorem unmix_mix (x : Int) (h : Word x) : unmixF (mixF x) = x := by
  unfold unmixF mixF
  have a1 := xs_word x h
  have a2 := mulc_word 18397679294719823053 (xs x)
  have a3 := xs_word _ a2
  have a4 := mulc_word 14181476777654086739 (xs (mulc 18397679294719823053 (xs x)))
  rw [xs_xs _ a4, mulc_mulc _ _ _ inv2 a3, xs_xs _ a2, mulc_mulc _ _ _ inv1 a1, xs_xs _ h]
theorem mix_unmix (y : Int) (h : Word y) : mixF (unmixF y) = y := by
  unfold unmixF mixF
  have a1 := xs_word y h
  have a2 := mulc_word (invN 14181476777654086739 5) (xs y)
  have a3 := xs_word _ a2
  have a4 := mulc_word (invN 18397679294719823053 5) (xs (mulc (invN 14181476777654086739 5) (xs y)))
  rw [xs_xs _ a4, mulc_mulc _ _ _ inv1' a3, xs_xs _ a2, mulc_mulc _ _ _ inv2' a1, xs_xs _ h]

theorem word_of_wf {x : Int} (h : (Lit.int .u64 x).wf = true) : Word x := by
  simp [Lit.wf, IntKind.min, IntKind.max, IntKind.signed, IntKind.bits] at h
  exact ⟨by omega, by omega⟩

/-! ### The walks -/
set_option maxHeartbeats 400000 in
theorem mix_any (x : Int) (w : World) :
    Calls Trym.prog 25 #[.int .u64 x] w fun e w' => e = .returned (.int .u64 (mixF x)) ∧ w' = w := by
  go_enter Trym.func25, Trym.ntmps25
  go_wp2
  go_ret
  exact ⟨rfl, rfl⟩

theorem zzMix_any (x : Int) (w : World) :
    Calls Trym.prog 10 #[.int .u64 x] w fun e w' => e = .returned (.int .u64 (mixF x)) ∧ w' = w := by
  go_enter Trym.func10, Trym.ntmps10
  go_wp2_with (go_at_call 25; refine (mix_any x _).mono ?_; rintro e w' ⟨rfl, rfl⟩)
  go_ret
  exact ⟨rfl, rfl⟩

set_option maxHeartbeats 400000 in
theorem inv_any (a : Int) (w : World) :
    Calls Trym.prog 24 #[.int .u64 a] w fun e w' => e = .returned (.int .u64 (invN a 5)) ∧ w' = w := by
  go_enter Trym.func24, Trym.ntmps24
  go_wp2
  go_loop [3, 4] (fun v i => ∃ k : Nat, k ≤ 5 ∧ i = .int .i64 k ∧ v = .int .u64 (invN a k)) (fun _ i => 5 - (intOf i).toNat)
  case atStart => exact ⟨0, Nat.zero_le _, rfl, rfl⟩
  case round =>
    obtain ⟨k, hk, rfl, rfl⟩ := hrel
    by_cases hlt : k < 5
    · go_wp2
      go_round
      case rel => exact ⟨k + 1, by omega, by go_num, rfl⟩
      case measure => simp [intOf]; omega
    · obtain rfl : k = 5 := by omega
      go_wp2
      go_ret
      exact ⟨rfl, rfl⟩

set_option maxHeartbeats 400000 in
theorem unmix_any (y : Int) (w : World) :
    Calls Trym.prog 9 #[.int .u64 y] w fun e w' => e = .returned (.int .u64 (unmixF y)) ∧ w' = w := by
  go_enter Trym.func9, Trym.ntmps9
  go_wp2_with (go_at_call 24; refine (inv_any _ _).mono ?_; rintro e w' ⟨rfl, rfl⟩)
  go_ret
  exact ⟨rfl, rfl⟩
end Go.Proofs.Qxb6600480aMods
