/-
  PLAIN MATHEMATICS, no Go in sight: the integers modulo 65537; polynomials as functions Nat -> Int; Lagrange interpolation as 'field.Interpolate' reckons it.
-/
namespace Go.Proofs.Qxb6602422a.Plain

/-- a and b leave one remainder modulo 65537. -/
def E (a b : Int) : Prop := (65537 : Int) ∣ a - b

theorem E.refl (a : Int) : E a a := by unfold E; omega
theorem E.symm {a b : Int} (h : E a b) : E b a := by unfold E at *; omega
theorem E.trans {a b c : Int} (h : E a b) (g : E b c) : E a c := by unfold E at *; omega
theorem E.add {a b c d : Int} (h : E a b) (g : E c d) : E (a + c) (b + d) := by unfold E at *; omega
theorem E.sub {a b c d : Int} (h : E a b) (g : E c d) : E (a - c) (b - d) := by unfold E at *; omega
theorem E.mul {a b c d : Int} (h : E a b) (g : E c d) : E (a * c) (b * d) := by
  unfold E at *
  obtain ⟨k, hk⟩ := h
  obtain ⟨l, hl⟩ := g
  refine ⟨k * c + b * l, ?_⟩
  have e1 : a = b + 65537 * k := by omega
  have e2 : c = d + 65537 * l := by omega
  subst e1
  rw [Int.mul_add, Int.add_mul, ← Int.mul_assoc, Int.mul_left_comm 65537 b l]
  rw [show 65537 * l = c - d from by omega, Int.mul_sub]
  omega
theorem E.mod (a : Int) : E (a % 65537) a := by unfold E; omega
theorem E.eq {a b : Int} (h : E a b) (ha0 : 0 ≤ a) (ha : a < 65537) (hb0 : 0 ≤ b) (hb : b < 65537) : a = b := by unfold E at h; omega
theorem E.emod {a b : Int} (h : E a b) : a % 65537 = b % 65537 := by unfold E at h; omega
theorem E.of_emod {a b : Int} (h : a % 65537 = b % 65537) : E a b := by unfold E; omega

/-! ### The field's operations, as the Go text reckons them -/
def mulF (a b : Int) : Int := a * b % 65537
def addF (a b : Int) : Int := (a + b) % 65537
def subF (a b : Int) : Int := (a + 65537 - b) % 65537
theorem mulF_lo (a b : Int) : 0 ≤ mulF a b := by unfold mulF; omega
theorem mulF_hi (a b : Int) : mulF a b < 65537 := by unfold mulF; omega
theorem addF_lo (a b : Int) : 0 ≤ addF a b := by unfold addF; omega
theorem addF_hi (a b : Int) : addF a b < 65537 := by unfold addF; omega
theorem subF_lo (a b : Int) : 0 ≤ subF a b := by unfold subF; omega
theorem subF_hi (a b : Int) : subF a b < 65537 := by unfold subF; omega
theorem mulF_E (a b : Int) : E (mulF a b) (a * b) := E.mod _
theorem addF_E (a b : Int) : E (addF a b) (a + b) := E.mod _
theorem subF_E (a b : Int) : E (subF a b) (a - b) := (E.mod _).trans (by unfold E; omega)

/-! ### Squaring sixteen times: 1 at every number that is no multiple of 65537 -/
def sq : Nat → Int → Int
  | 0, a => a
  | n + 1, a => sq n a * sq n a % 65537
theorem sq_E (n : Nat) {a b : Int} (h : E a b) : E (sq n a) (sq n b) := by
  induction n with
  | zero => exact h
  | succ n ih => exact (E.mod _).trans ((ih.mul ih).trans (E.mod _).symm)
theorem sq_mul (n : Nat) (a b : Int) : E (sq n (a * b)) (sq n a * sq n b) := by
  induction n with
  | zero => exact E.refl _
  | succ n ih =>
    have h := ih.mul ih
    rw [show sq n a * sq n b * (sq n a * sq n b) = sq n a * sq n a * (sq n b * sq n b) from by
      rw [Int.mul_assoc, Int.mul_assoc, Int.mul_left_comm (sq n b)]] at h
    exact (E.mod _).trans (h.trans ((E.mod _).symm.mul (E.mod _).symm))
theorem sq_neg (n : Nat) (a : Int) : E (sq (n + 1) (-a)) (sq (n + 1) a) := by
  have h : E (sq n (-a)) (sq n a) ∨ E (sq n (-a)) (-(sq n a)) := by
    induction n with
    | zero => exact .inr (E.refl _)
    | succ n ih =>
      refine .inl ?_
      rcases ih with ih | ih
      · exact (E.mod _).trans ((ih.mul ih).trans (E.mod _).symm)
      · have := ih.mul ih
        rw [Int.neg_mul_neg] at this
        exact (E.mod _).trans (this.trans (E.mod _).symm)
  rcases h with ih | ih
  · exact (E.mod _).trans ((ih.mul ih).trans (E.mod _).symm)
  · have := ih.mul ih
    rw [Int.neg_mul_neg] at this
    exact (E.mod _).trans (this.trans (E.mod _).symm)
/-- The squarings on natural numbers, for the kernel. -/
def sqN : Nat → Nat → Nat
  | 0, a => a
  | n + 1, a => sqN n a * sqN n a % 65537
def sqT : Nat → Nat → Nat
  | 0, a => a
  | n + 1, a => sqT n (a * a % 65537)
theorem sqT_eq (n : Nat) : ∀ a, sqT n (a * a % 65537) = sqN n a * sqN n a % 65537 ∧ True := by
  induction n with
  | zero => intro a; exact ⟨rfl, trivial⟩
  | succ n ih =>
    intro a
    refine ⟨?_, trivial⟩
    have h1 := (ih (a * a % 65537)).1
    show sqT n (a * a % 65537 * (a * a % 65537) % 65537) = _
    rw [h1]
    have h2 : sqN n (a * a % 65537) = sqN n a * sqN n a % 65537 := by
      clear h1 ih
      induction n with
      | zero => rfl
      | succ n ih => show sqN n (a * a % 65537) * sqN n (a * a % 65537) % 65537 = _; rw [ih]; rfl
    rw [h2]
    rfl
theorem sqN_sq (n a : Nat) : sq n (a : Int) = (sqN n a : Int) := by
  induction n with
  | zero => rfl
  | succ n ih => show sq n a * sq n a % 65537 = _; rw [ih]; simp [sqN]
theorem small_all : (List.range 257).all (fun a => a == 0 || sqT 16 a == 1) = true := by decide +kernel
theorem small_one (a : Nat) (h0 : 0 < a) (h : a < 257) : sqN 16 a = 1 := by
  have h1 := List.all_eq_true.1 small_all a (List.mem_range.2 h)
  have h2 : sqT 16 a = 1 := by
    rcases Bool.or_eq_true _ _ ▸ h1 with h | h
    · have := of_decide_eq_true h; omega
    · exact of_decide_eq_true h
  have h3 := (sqT_eq 15 a).1
  show sqN 15 a * sqN 15 a % 65537 = 1
  rw [← h3]
  exact h2
theorem no_div_all : (List.range 257).all (fun q => q == 0 || q == 1 || !(65537 % q == 0)) = true := by decide +kernel
theorem no_div_small (q : Nat) (h0 : 2 ≤ q) (h : q < 257) : 65537 % q ≠ 0 := by
  intro h3
  have h1 := List.all_eq_true.1 no_div_all q (List.mem_range.2 h)
  simp [h3] at h1
  omega
theorem no_div (a : Nat) (h0 : 2 ≤ a) (h : a < 65537) : 65537 % a ≠ 0 := by
  by_cases hs : a < 257
  · exact no_div_small a h0 hs
  · intro h3
    have e := Nat.div_add_mod 65537 a
    rw [h3] at e
    have hq : 65537 / a < 257 := by
      rw [Nat.div_lt_iff_lt_mul (by omega)]; omega
    have hq2 : 2 ≤ 65537 / a := by
      match h4 : 65537 / a with
      | 0 => rw [h4] at e; omega
      | 1 => rw [h4] at e; omega
      | n + 2 => omega
    refine no_div_small _ hq2 hq ?_
    have : 65537 % (65537 / a) = (a * (65537 / a) + 0) % (65537 / a) := by rw [e]
    rw [this, Nat.add_zero, Nat.mul_mod_left]
theorem fermat_nat (a : Nat) : 0 < a → a < 65537 → E (sq 16 (a : Int)) 1 := by
  induction a using Nat.strongRecOn with
  | ind a ih =>
    intro h0 h
    by_cases hs : a < 257
    · rw [sqN_sq, small_one a h0 hs]; exact E.refl _
    · have e := Nat.div_add_mod 65537 a
      have hr0 := no_div a (by omega) h
      have hr := Nat.mod_lt 65537 h0
      have hq : 65537 / a < 257 := by
        rw [Nat.div_lt_iff_lt_mul (by omega)]; omega
      have hq0 : 0 < 65537 / a := Nat.div_pos (by omega) h0
      generalize 65537 / a = q at *
      generalize 65537 % a = r at *
      have iq := ih q (by omega) hq0 (by omega)
      have ir := ih r hr (by omega) (by omega)
      have e2 : E ((a : Int) * (q : Int)) (-(r : Int)) := by
        have : (a : Int) * (q : Int) + (r : Int) = 65537 := by
          have := congrArg (Nat.cast (R := Int)) e
          simpa using this
        unfold E; omega
      have h1 := sq_E 16 e2
      have h2 := (h1.trans (sq_neg 15 r)).trans ir
      have h3 := (sq_mul 16 a q).symm.trans h2
      have h4 := ((E.refl (sq 16 a)).mul iq).symm.trans h3
      simpa using h4
theorem fermat (a : Int) (h : ¬ E a 0) : E (sq 16 a) 1 := by
  have h1 : E a (a % 65537) := (E.mod a).symm
  have h2 : a % 65537 ≠ 0 := by intro g; exact h (by unfold E; omega)
  obtain ⟨n, hn⟩ := Int.eq_ofNat_of_zero_le (show 0 ≤ a % 65537 by omega)
  have h3 := fermat_nat n (by omega) (by omega)
  rw [← hn] at h3
  exact (sq_E 16 h1).trans h3

/-! ### The inverse as '(Elem).inv' reckons it: sixteen rounds 'r = r * a; a = a * a' -/
def invR : Nat → Int → Int
  | 0, _ => 1
  | n + 1, a => mulF (invR n a) (sq n a)
def inv (a : Int) : Int := invR 16 a
theorem invR_lo (n : Nat) (a : Int) : 0 ≤ invR n a := by
  cases n with
  | zero => exact (by decide : (0 : Int) ≤ 1)
  | succ n => exact mulF_lo _ _
theorem invR_hi (n : Nat) (a : Int) : invR n a < 65537 := by
  cases n with
  | zero => exact (by decide : (1 : Int) < 65537)
  | succ n => exact mulF_hi _ _
theorem sq_lo (n : Nat) (a : Int) (h : 0 ≤ a) : 0 ≤ sq n a := by
  cases n with
  | zero => exact h
  | succ n => unfold sq; omega
theorem sq_hi (n : Nat) (a : Int) (h : a < 4294967296) : sq n a < 4294967296 := by
  cases n with
  | zero => exact h
  | succ n => unfold sq; omega
theorem inv_lo (a : Int) : 0 ≤ inv a := invR_lo _ _
theorem inv_hi (a : Int) : inv a < 65537 := invR_hi _ _
theorem invR_mul (n : Nat) (a : Int) : E (invR n a * a) (sq n a) := by
  induction n with
  | zero => show E (1 * a) a; rw [Int.one_mul]; exact E.refl _
  | succ n ih =>
    have h := (mulF_E (invR n a) (sq n a)).mul (E.refl a)
    rw [Int.mul_right_comm] at h
    exact h.trans ((ih.mul (E.refl _)).trans (E.mod _).symm)
theorem inv_mul (a : Int) (h : ¬ E a 0) : E (inv a * a) 1 := (invR_mul 16 a).trans (fermat a h)
theorem inv_zero (a : Int) (h : E a 0) : inv a = 0 := by
  have h1 : E (inv a) 0 := by
    have h2 := (mulF_E (invR 15 a) (sq 15 a))
    have h3 := sq_E 15 h
    have h4 : sq 15 0 = 0 := by decide +kernel
    rw [h4] at h3
    have h5 := h2.trans ((E.refl _).mul h3)
    rw [Int.mul_zero] at h5
    exact h5
  exact h1.eq (inv_lo a) (inv_hi a) (by omega) (by omega)
/-- One inverse alone. -/
theorem inv_unique {a b c : Int} (hb : E (b * a) 1) (hc : E (c * a) 1) : E b c := by
  have h1 := hb.mul (E.refl c)
  have h2 := hc.mul (E.refl b)
  rw [Int.one_mul] at h1 h2
  rw [show b * a * c = c * a * b from by rw [Int.mul_comm b a, Int.mul_assoc, Int.mul_comm c a, Int.mul_assoc, Int.mul_comm b c]] at h1
  exact (h2.symm.trans h1)
theorem one_not_zero : ¬ E 1 0 := by unfold E; omega
theorem inv_inv (a : Int) : inv (inv a) = a % 65537 := by
  by_cases h : E a 0
  · have h1 := inv_zero a h
    rw [h1, inv_zero 0 (E.refl _)]
    unfold E at h; omega
  · have h1 := inv_mul a h
    have h2 : ¬ E (inv a) 0 := by
      intro g
      have := (g.mul (E.refl a)).symm.trans h1
      rw [Int.zero_mul] at this
      exact one_not_zero this.symm
    have h3 := inv_mul _ h2
    rw [Int.mul_comm] at h1
    have h4 := (inv_unique h3 h1).trans (E.mod a).symm
    exact h4.eq (inv_lo _) (inv_hi _) (by omega) (by omega)
/-- No two numbers that are no multiples of 65537 have such a product. -/
theorem E.cancel {a b : Int} (ha : ¬ E a 0) (h : E (a * b) 0) : E b 0 := by
  have h1 := (E.refl (inv a)).mul h
  rw [Int.mul_zero, ← Int.mul_assoc] at h1
  have h2 := ((inv_mul a ha).mul (E.refl b)).symm.trans h1
  rw [Int.one_mul] at h2
  exact h2
end Go.Proofs.Qxb6602422a.Plain
