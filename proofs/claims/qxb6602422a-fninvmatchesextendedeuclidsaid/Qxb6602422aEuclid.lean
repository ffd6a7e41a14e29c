/-
  THE EXTENDED EUCLIDEAN ALGORITHM (zzEuclidInvB1): its plain law, and its walk.
-/
import Derived.Test.Qxb6602422aArith
namespace Go.Proofs.Qxb6602422a
open Go.ChangeShapes Go.WideShapes Go.ChangeAt Go.RowKit

namespace Plain
/-- What holds ahead of every round. -/
def EInv (a r0 r1 t0 t1 : Int) : Prop :=
  0 ≤ r1 ∧ r1 < r0 ∧ r0 ≤ 65537 ∧ E (t0 * a) r0 ∧ E (t1 * a) r1 ∧
    ((t0 ≤ 0 ∧ 0 ≤ t1 ∧ t1 * r0 - t0 * r1 = 65537) ∨ (0 ≤ t0 ∧ t1 ≤ 0 ∧ t0 * r1 - t1 * r0 = 65537))
theorem le_mul_of_one_le {x y : Int} (hx : 0 ≤ x) (hy : 1 ≤ y) : x ≤ x * y := by
  have := Int.mul_le_mul_of_nonneg_left hy hx
  omega
theorem EInv.t1_le {a r0 r1 t0 t1 : Int} (h : EInv a r0 r1 t0 t1) : -65537 ≤ t1 ∧ t1 ≤ 65537 := by
  obtain ⟨h1, h2, h3, _, _, h | h⟩ := h
  · have e1 : t1 ≤ t1 * r0 := le_mul_of_one_le h.2.1 (by omega)
    have e2 : t0 * r1 ≤ 0 := Int.mul_nonpos_of_nonpos_of_nonneg h.1 h1
    omega
  · have e1 : -t1 ≤ -t1 * r0 := le_mul_of_one_le (by omega) (by omega)
    have e2 : 0 ≤ t0 * r1 := Int.mul_nonneg h.1 h1
    rw [Int.neg_mul] at e1
    omega
theorem EInv.t0_le {a r0 r1 t0 t1 : Int} (h : EInv a r0 r1 t0 t1) (hr : 0 < r1) : -65537 ≤ t0 ∧ t0 ≤ 65537 := by
  obtain ⟨h1, h2, h3, _, _, h | h⟩ := h
  · have e1 : -t0 ≤ -t0 * r1 := le_mul_of_one_le (by omega) (by omega)
    have e2 : 0 ≤ t1 * r0 := Int.mul_nonneg h.2.1 (by omega)
    rw [Int.neg_mul] at e1
    omega
  · have e1 : t0 ≤ t0 * r1 := le_mul_of_one_le h.1 (by omega)
    have e2 : t1 * r0 ≤ 0 := Int.mul_nonpos_of_nonpos_of_nonneg h.2.1 (by omega)
    omega
theorem EInv.step {a r0 r1 t0 t1 : Int} (h : EInv a r0 r1 t0 t1) (hr : 0 < r1) : EInv a r1 (r0 - r0 / r1 * r1) t1 (t0 - r0 / r1 * t1) := by
  obtain ⟨h1, h2, h3, h4, h5, h6⟩ := h
  have hm : r0 - r0 / r1 * r1 = r0 % r1 := by
    have := Int.emod_add_mul_ediv r0 r1
    rw [Int.mul_comm] at this
    omega
  have m0 := Int.emod_nonneg r0 (show r1 ≠ 0 by omega)
  have m1 := Int.emod_lt_of_pos r0 hr
  have hq : 0 ≤ r0 / r1 := Int.ediv_nonneg (by omega) (by omega)
  rw [← hm] at m0 m1
  clear hm
  generalize r0 / r1 = q at *
  refine ⟨m0, m1, by omega, h5, ?_, ?_⟩
  · have := h4.sub ((E.refl q).mul h5)
    rw [Int.sub_mul, Int.mul_assoc]
    exact this
  · have e : t1 * (r0 - q * r1) - (t0 - q * t1) * r1 = t1 * r0 - t0 * r1 := by
      rw [Int.mul_sub, Int.sub_mul, Int.mul_left_comm t1 q r1, Int.mul_assoc]
      omega
    rcases h6 with ⟨g1, g2, g3⟩ | ⟨g1, g2, g3⟩
    · have := Int.mul_nonneg hq g2
      exact .inr ⟨g2, by omega, by omega⟩
    · have := Int.mul_nonpos_of_nonneg_of_nonpos hq g2
      exact .inl ⟨g2, by omega, by omega⟩
theorem EInv.start {a : Int} (h0 : 0 ≤ a) (h : a < 65537) : EInv a 65537 a 0 1 := by
  refine ⟨h0, h, by omega, ?_, ?_, .inl ⟨by omega, by omega, by omega⟩⟩
  · rw [Int.zero_mul]; unfold E; omega
  · rw [Int.one_mul]; exact E.refl _
theorem EInv.stop {a r0 t0 t1 : Int} (h : EInv a r0 0 t0 t1) (ha : ¬ E a 0) : E t0 (inv a) := by
  have hb := h.t1_le
  obtain ⟨h1, h2, h3, h4, h5, h6⟩ := h
  rw [Int.mul_comm] at h5
  have h7 := E.cancel ha h5
  have h8 : r0 = 1 := by
    unfold E at h7
    rcases h6 with ⟨g1, g2, g3⟩ | ⟨g1, g2, g3⟩
    · rcases (show t1 = 0 ∨ t1 = 65537 by omega) with rfl | rfl
      · omega
      · omega
    · rcases (show t1 = 0 ∨ t1 = -65537 by omega) with rfl | rfl
      · omega
      · omega
  rw [h8] at h4
  exact inv_unique h4 (inv_mul a ha)
theorem inv_congr {a b : Int} (h : E a b) : inv a = inv b := by
  by_cases ha : E a 0
  · rw [inv_zero a ha, inv_zero b (h.symm.trans ha)]
  · have hb : ¬ E b 0 := fun g => ha (h.trans g)
    have h1 := inv_mul a ha
    have h2 := inv_mul b hb
    have h3 := ((E.refl (inv a)).mul h).symm.trans h1
    exact (inv_unique h3 h2).eq (inv_lo _) (inv_hi _) (inv_lo _) (inv_hi _)
theorem tmod_lo (t : Int) : -65537 < t.tmod 65537 := Int.lt_tmod_of_pos t (by decide)
theorem tmod_hi (t : Int) : t.tmod 65537 < 65537 := Int.tmod_lt_of_pos t (by decide)
theorem tmod_E (t : Int) : E (t.tmod 65537) t := by
  have := Int.tmod_def t 65537
  exact ⟨-(t.tdiv 65537), by omega⟩
/-- The remainder that the algorithm ends with, brought into 0 .. 65536. -/
theorem stop_neg {a t0 : Int} (h : E t0 (inv a)) (ht : t0.tmod 65537 < 0) : t0.tmod 65537 + 65537 = inv a := by
  have h1 := inv_lo a
  have h2 := inv_hi a
  have h3 := tmod_lo t0
  have h4 : E (t0.tmod 65537 + 65537) t0 := by
    have := tmod_E t0
    unfold E at *; omega
  exact (h4.trans h).eq (by omega) (by omega) h1 h2
theorem stop_pos {a t0 : Int} (h : E t0 (inv a)) (ht : ¬ t0.tmod 65537 < 0) : t0.tmod 65537 = inv a := by
  have h1 := inv_lo a
  have h2 := inv_hi a
  have h3 := tmod_hi t0
  exact ((tmod_E t0).trans h).eq (by omega) (by omega) h1 h2
end Plain

theorem ret_int {k : IntKind} {a b : Int} (h : a = b) : Ending.returned (.int k a) = .returned (.int k b) := by rw [h]

/-- A multiple of 65537: 0. -/
theorem euclid_zero (a : Int) (w : World) (ha0 : 0 ≤ a) (ha : a < 4294967296) (hz : (a % 65537 == 0) = true) :
    Calls Try.prog 18 #[.int .u64 a] w fun e w' => e = .returned (.int .u64 0) ∧ w' = w := by
  go_enter Try.func18, Try.ntmps18
  go_wp2
  go_ret
  exact ⟨rfl, rfl⟩

set_option maxHeartbeats 1000000 in
theorem euclid_pos (a : Int) (w : World) (ha0 : 0 ≤ a) (ha : a < 4294967296) (hz : (a % 65537 == 0) = false) :
    Calls Try.prog 18 #[.int .u64 a] w fun e w' => e = .returned (.int .u64 (Plain.inv a)) ∧ w' = w := by
  have hz' : ¬ a % 65537 = 0 := by simpa using hz
  have hE : ¬ Plain.E (a % 65537) 0 := by unfold Plain.E; omega
  have hI : Hid (Plain.inv a = Plain.inv (a % 65537)) := Plain.inv_congr (Plain.E.mod a).symm
  go_enter Try.func18, Try.ntmps18
  go_wp2
  go_loop [3, 4, 5, 6] (fun x3 x4 x5 x6 => ∃ r0 r1 t0 t1 : Int, x3 = .int .i64 r0 ∧ x4 = .int .i64 r1 ∧ x5 = .int .i64 t0 ∧ x6 = .int .i64 t1 ∧ Plain.EInv (a % 65537) r0 r1 t0 t1) (fun _ x4 _ _ => (intOf x4).toNat)
  case atStart => exact ⟨_, _, _, _, rfl, rfl, rfl, rfl, Plain.EInv.start (by omega) (by omega)⟩
  case round =>
    obtain ⟨r0, r1, t0, t1, rfl, rfl, rfl, rfl, hinv⟩ := hrel
    have p1 : 0 ≤ r1 := hinv.1
    have p2 : r1 < r0 := hinv.2.1
    have p3 : r0 ≤ 65537 := hinv.2.2.1
    by_cases hr : 0 < r1
    · have hst := hinv.step hr
      have q1 := hinv.t1_le
      have q2 := hinv.t0_le hr
      have q3 := hst.t1_le
      have s1 := hst.1
      have s2 := hst.2.1
      obtain ⟨q11, q12⟩ := q1
      obtain ⟨q21, q22⟩ := q2
      obtain ⟨q31, q32⟩ := q3
      have d0 : 0 ≤ r0 / r1 := Int.ediv_nonneg (by omega) (by omega)
      have d1 : r0 / r1 ≤ 65537 := by
        have := Int.ediv_le_self r1 (show 0 ≤ r0 by omega)
        omega
      have HS : Hid (Plain.EInv (a % 65537) r1 (r0 - r0 / r1 * r1) t1 (t0 - r0 / r1 * t1)) := hst
      clear hst hinv
      go_wp2
      go_round
      case rel => exact ⟨_, _, _, _, rfl, rfl, rfl, rfl, HS.out⟩
      case measure => simp [intOf]; omega
    · obtain rfl : r1 = 0 := by omega
      have hstop := hinv.stop hE
      have b1 := Plain.tmod_lo t0
      have b2 := Plain.tmod_hi t0
      by_cases hneg : t0.tmod 65537 < 0
      · have hfin : Hid (t0.tmod 65537 + 65537 = Plain.inv (a % 65537)) := Plain.stop_neg hstop hneg
        clear hinv hstop hE
        go_wp2
        go_ret
        exact ⟨ret_int (by rw [hI.out, ← hfin.out]), rfl⟩
      · have hfin : Hid (t0.tmod 65537 = Plain.inv (a % 65537)) := Plain.stop_pos hstop hneg
        clear hinv hstop hE
        go_wp2
        go_ret
        exact ⟨ret_int (by rw [hI.out, ← hfin.out]), rfl⟩
/-- The contract: the very number that 'inv' gives. -/
theorem euclid_any (a : Int) (w : World) (ha0 : 0 ≤ a) (ha : a < 4294967296) :
    Calls Try.prog 18 #[.int .u64 a] w fun e w' => e = .returned (.int .u64 (Plain.inv a)) ∧ w' = w := by
  cases hz : (a % 65537 == 0)
  · exact euclid_pos a w ha0 ha hz
  · rw [Plain.inv_zero a (by unfold Plain.E; simp at hz; omega)]
    exact euclid_zero a w ha0 ha hz
end Go.Proofs.Qxb6602422a
