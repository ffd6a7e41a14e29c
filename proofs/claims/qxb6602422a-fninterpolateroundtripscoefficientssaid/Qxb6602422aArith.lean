/-
  THE WALKS OF THE FIELD's OPERATIONS: (Elem).Mul, Sub, Add, inv; ZZInv: each computes its plain function (Qxb6602422aPlain).
-/
import Derived.Test.Qxb6602422aRows
import Derived.Test.Qxb6602422aPlain
import Derived.WalkKit
import Derived.ProofKit
namespace Go.Proofs.Qxb6602422a
open Go.ChangeShapes Go.WideShapes Go.ChangeAt Go.RowKit

theorem mul_nonneg {a b : Int} (ha0 : 0 ≤ a) (hb0 : 0 ≤ b) : 0 ≤ a * b := Int.mul_nonneg ha0 hb0
theorem mul_le32 {a b : Int} (ha0 : 0 ≤ a) (ha : a < 4294967296) (hb0 : 0 ≤ b) (hb : b < 4294967296) : a * b ≤ 18446744065119617025 := by
  have h1 : a * b ≤ 4294967295 * b := Int.mul_le_mul_of_nonneg_right (by omega) hb0
  omega

set_option maxHeartbeats 400000 in
theorem mul_any (a b : Int) (w : World) (ha0 : 0 ≤ a) (ha : a < 4294967296) (hb0 : 0 ≤ b) (hb : b < 4294967296) :
    Calls Try.prog 20 #[.int .u32 a, .int .u32 b] w fun e w' => e = .returned (.int .u32 (Plain.mulF a b)) ∧ w' = w := by
  have h1 := mul_nonneg ha0 hb0
  have h2 := mul_le32 ha0 ha hb0 hb
  go_enter Try.func20, Try.ntmps20
  go_wp2
  go_ret
  exact ⟨rfl, rfl⟩

set_option maxHeartbeats 400000 in
theorem sub_any (a b : Int) (w : World) (ha0 : 0 ≤ a) (ha : a < 65537) (hb0 : 0 ≤ b) (hb : b < 65537) :
    Calls Try.prog 19 #[.int .u32 a, .int .u32 b] w fun e w' => e = .returned (.int .u32 (Plain.subF a b)) ∧ w' = w := by
  go_enter Try.func19, Try.ntmps19
  go_wp2
  go_ret
  exact ⟨rfl, rfl⟩

set_option maxHeartbeats 400000 in
theorem add_any (a b : Int) (w : World) (ha0 : 0 ≤ a) (ha : a < 65537) (hb0 : 0 ≤ b) (hb : b < 65537) :
    Calls Try.prog 21 #[.int .u32 a, .int .u32 b] w fun e w' => e = .returned (.int .u32 (Plain.addF a b)) ∧ w' = w := by
  go_enter Try.func21, Try.ntmps21
  go_wp2
  go_ret
  exact ⟨rfl, rfl⟩

/-- The exponent ahead of round i: 65535, halved i times. -/
def eOf (i : Nat) : Int := ((65535 / 2 ^ i : Nat) : Int)
theorem eOf_facts : ∀ i, i < 16 → (bits BinOp.and IntKind.i64 (eOf i) 1 == 1) = true ∧ 0 < eOf i ∧ eOf i ≤ 65535 ∧ eOf i / 2 = eOf (i + 1) := by decide +kernel
theorem eOf_last : eOf 16 = 0 := by decide +kernel

set_option maxHeartbeats 400000 in
theorem inv_any (a : Int) (w : World) (ha0 : 0 ≤ a) (ha : a < 4294967296) :
    Calls Try.prog 22 #[.int .u32 a] w fun e w' => e = .returned (.int .u32 (Plain.inv a)) ∧ w' = w := by
  go_enter Try.func22, Try.ntmps22
  go_wp2
  go_loop [0, 3, 4] (fun x r e => ∃ i : Nat, i ≤ 16 ∧ x = .int .u32 (Plain.sq i a) ∧ r = .int .u32 (Plain.invR i a) ∧ e = .int .i64 (eOf i)) (fun _ _ e => (intOf e).toNat)
  case atStart => exact ⟨0, by omega, rfl, rfl, rfl⟩
  case round =>
    obtain ⟨i, hi, rfl, rfl, rfl⟩ := hrel
    have h1 := Plain.sq_lo i a ha0
    have h2 := Plain.sq_hi i a ha
    have h3 := Plain.invR_lo i a
    have h4 := Plain.invR_hi i a
    by_cases hlt : i < 16
    · obtain ⟨f1, f2, f3, f4⟩ := eOf_facts i hlt
      have F4 : Hid (eOf i / 2 = eOf (i + 1)) := f4
      clear f4
      generalize eOf i = m at *
      go_wp2_with (go_at_call 20; refine (mul_any _ _ _ (by omega) (by omega) (by omega) (by omega)).mono ?_; rintro e w' ⟨rfl, rfl⟩)
      go_round
      case rel => exact ⟨i + 1, by omega, rfl, rfl, by rw [← F4.out]⟩
      case measure => simp [intOf]; omega
    · obtain rfl : i = 16 := by omega
      rw [eOf_last]
      go_wp2
      go_ret
      exact ⟨rfl, rfl⟩

set_option maxHeartbeats 400000 in
theorem zzinv_any (a : Int) (w : World) (ha0 : 0 ≤ a) (ha : a < 4294967296) :
    Calls Try.prog 17 #[.int .u32 a] w fun e w' => e = .returned (.int .u32 (Plain.inv a)) ∧ w' = w := by
  go_enter Try.func17, Try.ntmps17
  go_wp2_with (go_at_call 22; refine (inv_any _ _ (by omega) (by omega)).mono ?_; rintro e w' ⟨rfl, rfl⟩)
  go_ret
  exact ⟨rfl, rfl⟩
end Go.Proofs.Qxb6602422a
