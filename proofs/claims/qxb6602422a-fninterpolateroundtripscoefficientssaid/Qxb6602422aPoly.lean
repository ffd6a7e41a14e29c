/-
  PLAIN MATHEMATICS, no Go in sight: polynomials modulo 65537, and what 'field.Interpolate' reckons.
-/
import Derived.Test.Qxb6602422aPlain
namespace Go.Proofs.Qxb6602422a.Plain

/-- The value at x of the polynomial with the coefficients f j, f (j + 1), .., m of them. -/
def ev (f : Nat → Int) (x : Int) : Nat → Nat → Int
  | _, 0 => 0
  | j, m + 1 => f j + x * ev f x (j + 1) m
theorem ev_zero (f : Nat → Int) (x : Int) (j : Nat) : ev f x j 0 = 0 := rfl
theorem ev_succ (f : Nat → Int) (x : Int) (j m : Nat) : ev f x j (m + 1) = f j + x * ev f x (j + 1) m := rfl
theorem ev_E {f g : Nat → Int} {x y : Int} (hxy : E x y) (j m : Nat) (h : ∀ i, j ≤ i → i < j + m → E (f i) (g i)) : E (ev f x j m) (ev g y j m) := by
  induction m generalizing j with
  | zero => exact E.refl _
  | succ m ih => exact (h j (Nat.le_refl _) (by omega)).add (hxy.mul (ih (j + 1) (fun i h1 h2 => h i (by omega) (by omega))))
theorem ev_add (f g : Nat → Int) (x : Int) (j m : Nat) : ev (fun i => f i + g i) x j m = ev f x j m + ev g x j m := by
  induction m generalizing j with
  | zero => rfl
  | succ m ih => simp only [ev_succ, ih, Int.mul_add]; omega
theorem ev_sub (f g : Nat → Int) (x : Int) (j m : Nat) : ev (fun i => f i - g i) x j m = ev f x j m - ev g x j m := by
  induction m generalizing j with
  | zero => rfl
  | succ m ih => simp only [ev_succ, ih, Int.mul_sub]; omega
theorem ev_smul (s : Int) (f : Nat → Int) (x : Int) (j m : Nat) : ev (fun i => s * f i) x j m = s * ev f x j m := by
  induction m generalizing j with
  | zero => simp [ev_zero]
  | succ m ih => simp only [ev_succ, ih, Int.mul_add, Int.mul_left_comm]
theorem ev_snoc (f : Nat → Int) (x : Int) (j m : Nat) (h : f (j + m) = 0) : ev f x j (m + 1) = ev f x j m := by
  induction m generalizing j with
  | zero =>
    have : f j = 0 := h
    simp [ev_succ, ev_zero, this]
  | succ m ih =>
    rw [ev_succ, ih (j + 1) (by rw [← h]; congr 1; omega), ev_succ]
/-- Division by (X - k): what is left over is the value at k. -/
theorem ev_div (f : Nat → Int) (x k : Int) (j m : Nat) :
    ev f x j (m + 1) - ev f k j (m + 1) = (x - k) * ev (fun i => ev f k (i + 1) (j + m - i)) x j m := by
  induction m generalizing j with
  | zero => simp [ev_succ, ev_zero]
  | succ m ih =>
    have h := ih (j + 1)
    have e1 : ∀ i, j + 1 + m - i = j + (m + 1) - i := fun i => by omega
    simp only [e1] at h
    rw [ev_succ f x j, ev_succ f k j, ev_succ (fun i => ev f k (i + 1) (j + (m + 1) - i)) x j]
    show _ = (x - k) * (ev f k (j + 1) (j + (m + 1) - j) + _)
    rw [show j + (m + 1) - j = m + 1 from by omega]
    have e2 : ev f x (j + 1) (m + 1) = ev f k (j + 1) (m + 1) + (x - k) * ev (fun i => ev f k (i + 1) (j + (m + 1) - i)) x (j + 1) m := by omega
    rw [e2]
    generalize ev f k (j + 1) (m + 1) = A
    generalize ev (fun i => ev f k (i + 1) (j + (m + 1) - i)) x (j + 1) m = B
    rw [Int.mul_add, Int.mul_add, Int.mul_left_comm x (x - k) B, Int.sub_mul x k A]
    omega
/-- A difference of two small numbers is no multiple of 65537. -/
theorem diff_not {x k : Nat} (hx : x < 65537) (hk : k < 65537) (h : x ≠ k) : ¬ E ((x : Int) - (k : Int)) 0 := by unfold E; omega
/-- A polynomial of n coefficients that is 0 at 0 .. n-1 has no coefficient but 0. -/
theorem roots (n : Nat) : ∀ f : Nat → Int, n ≤ 65537 → (∀ x : Nat, x < n → E (ev f x 0 n) 0) → ∀ j, j < n → E (f j) 0 := by
  induction n with
  | zero => intro f _ _ j hj; omega
  | succ n ih =>
    intro f hn h
    have hg : ∀ j, j < n → E (ev f n (j + 1) (0 + n - j)) 0 := by
      refine ih (fun i => ev f n (i + 1) (0 + n - i)) (by omega) ?_
      intro x hx
      have h1 := ev_div f x n 0 n
      have h2 := (h x (by omega)).sub (h n (by omega))
      rw [h1, Int.sub_zero] at h2
      exact E.cancel (diff_not (by omega) (by omega) (by omega)) h2
    -- the values at n from j on are 0
    have hp : ∀ j, j ≤ n + 1 → E (ev f n j (n + 1 - j)) 0 := by
      intro j hj
      match j, hj with
      | 0, _ => exact h n (by omega)
      | j + 1, hj =>
        by_cases hjn : j = n
        · subst hjn
          rw [show j + 1 - (j + 1) = 0 from by omega]
          exact E.refl _
        · have := hg j (by omega)
          rwa [show 0 + n - j = n + 1 - (j + 1) from by omega] at this
    intro j hj
    have h1 := hp j (by omega)
    rw [show n + 1 - j = (n - j) + 1 from by omega, ev_succ] at h1
    have h2 := hp (j + 1) (by omega)
    rw [show n + 1 - (j + 1) = n - j from by omega] at h2
    have h3 := h1.sub ((E.refl (n : Int)).mul h2)
    rw [Int.mul_zero, Int.sub_zero, Int.add_sub_cancel] at h3
    exact h3

/-! ### 'all': the product of (x - i) over every point i -/
/-- The table 'all' behind i rounds: cell j. -/
def allF : Nat → Nat → Int
  | 0, 0 => 1
  | 0, _ + 1 => 0
  | i + 1, 0 => subF 0 (mulF (allF i 0) i)
  | i + 1, j + 1 => subF (allF i j) (mulF (allF i (j + 1)) i)
theorem allF_lo (i j : Nat) : 0 ≤ allF i j := by
  match i, j with
  | 0, 0 => exact (by decide : (0 : Int) ≤ 1)
  | 0, _ + 1 => exact Int.le_refl 0
  | _ + 1, 0 => exact subF_lo _ _
  | _ + 1, _ + 1 => exact subF_lo _ _
theorem allF_hi (i j : Nat) : allF i j < 65537 := by
  match i, j with
  | 0, 0 => exact (by decide : (1 : Int) < 65537)
  | 0, _ + 1 => exact (by decide : (0 : Int) < 65537)
  | _ + 1, 0 => exact subF_hi _ _
  | _ + 1, _ + 1 => exact subF_hi _ _
theorem sub_mul_zero (i : Int) : subF 0 (mulF 0 i) = 0 := by simp [mulF, subF]
theorem allF_past (i : Nat) : ∀ j, i < j → allF i j = 0 := by
  induction i with
  | zero => intro j hj; match j, hj with | _ + 1, _ => rfl
  | succ i ih =>
    intro j hj
    match j, hj with
    | j + 1, hj =>
      show subF (allF i j) (mulF (allF i (j + 1)) i) = 0
      rw [ih j (by omega), ih (j + 1) (by omega)]
      exact sub_mul_zero _
theorem allF_top (i : Nat) : allF i i = 1 := by
  induction i with
  | zero => rfl
  | succ i ih =>
    show subF (allF i i) (mulF (allF i (i + 1)) i) = 1
    rw [ih, allF_past i (i + 1) (by omega)]
    simp [mulF, subF]
theorem allF_zero_E (i : Nat) : E (allF (i + 1) 0) (0 - allF i 0 * i) := (subF_E _ _).trans ((E.refl _).sub (mulF_E _ _))
theorem allF_succ_E (i j : Nat) : E (allF (i + 1) (j + 1)) (allF i j - allF i (j + 1) * i) := (subF_E _ _).trans ((E.refl _).sub (mulF_E _ _))
/-- The product of (x - i) over i < n. -/
def pr (x : Int) : Nat → Int
  | 0 => 1
  | n + 1 => (x - n) * pr x n
theorem ev_shift_E (i : Nat) (x : Int) (j m : Nat) : E (ev (allF (i + 1)) x (j + 1) m) (ev (allF i) x j m - i * ev (allF i) x (j + 1) m) := by
  induction m generalizing j with
  | zero => simp only [ev_zero]; exact (by unfold E; omega)
  | succ m ih =>
    have h := (allF_succ_E i j).add ((E.refl x).mul (ih (j + 1)))
    rw [ev_succ, ev_succ, ev_succ]
    refine h.trans ?_
    generalize ev (allF i) x (j + 1) m = A
    generalize ev (allF i) x (j + 1 + 1) m = B
    have e : allF i j - allF i (j + 1) * i + x * (A - i * B) = allF i j + x * A - i * (allF i (j + 1) + x * B) := by
      rw [Int.mul_sub, Int.mul_add, Int.mul_left_comm x i B, Int.mul_comm (allF i (j + 1))]
      omega
    rw [e]
    exact E.refl _
theorem all_E (n : Nat) (x : Int) : E (ev (allF n) x 0 (n + 1)) (pr x n) := by
  induction n with
  | zero =>
    show E (1 + x * 0) 1
    rw [Int.mul_zero]
    exact E.refl _
  | succ n ih =>
    rw [ev_succ]
    have h1 := (allF_zero_E n).add ((E.refl x).mul (ev_shift_E n x 0 (n + 1)))
    refine h1.trans ?_
    have e1 : ev (allF n) x 0 (n + 1 + 1) = ev (allF n) x 0 (n + 1) := ev_snoc _ _ _ _ (allF_past n _ (by omega))
    rw [ev_succ] at e1
    have e2 : 0 - allF n 0 * n + x * (ev (allF n) x 0 (n + 1) - n * ev (allF n) x (0 + 1) (n + 1)) = (x - n) * ev (allF n) x 0 (n + 1) := by
      rw [Int.sub_mul, ← e1]
      generalize ev (allF n) x (0 + 1) (n + 1) = B
      rw [Int.mul_sub, Int.mul_add, Int.mul_add, Int.mul_left_comm x n B, Int.mul_comm (allF n 0)]
      omega
    rw [e2]
    exact (E.refl _).mul ih
theorem pr_root (n k : Nat) (h : k < n) : pr k n = 0 := by
  induction n with
  | zero => omega
  | succ n ih =>
    show ((k : Int) - n) * pr k n = 0
    by_cases hk : k = n
    · subst hk; rw [Int.sub_self, Int.zero_mul]
    · rw [ih (by omega), Int.mul_zero]
theorem all_root (n k : Nat) (h : k < n) : E (ev (allF n) k 0 (n + 1)) 0 := by
  have := all_E n k
  rwa [pr_root n k h] at this

/-! ### 'q' = all / (x - k) -/
/-- Cell j of 'q' at the point k. -/
def qF (n k j : Nat) : Int := ev (allF n) k (j + 1) (n - j) % 65537
theorem qF_lo (n k j : Nat) : 0 ≤ qF n k j := by unfold qF; omega
theorem qF_hi (n k j : Nat) : qF n k j < 65537 := by unfold qF; omega
theorem qF_top (n k : Nat) (h : 0 < n) : qF n k (n - 1) = allF n n := by
  unfold qF
  rw [show n - (n - 1) = 0 + 1 from by omega, ev_succ, ev_zero, Int.mul_zero, Int.add_zero, show n - 1 + 1 = n from by omega, allF_top]
  rfl
theorem qF_step (n k j : Nat) (h0 : 0 < j) (h : j < n) : addF (allF n j) (mulF k (qF n k j)) = qF n k (j - 1) := by
  unfold qF
  rw [show n - (j - 1) = (n - j) + 1 from by omega, show j - 1 + 1 = j from by omega, ev_succ]
  have h1 := (addF_E (allF n j) (mulF k (ev (allF n) k (j + 1) (n - j) % 65537))).trans ((E.refl _).add ((mulF_E _ _).trans ((E.refl _).mul (E.mod _))))
  have h2 := h1.emod
  rw [← h2]
  unfold addF
  omega
theorem q_E (n k : Nat) (x : Int) : E (ev (qF n k) x 0 n) (ev (fun i => ev (allF n) k (i + 1) (0 + n - i)) x 0 n) := by
  refine ev_E (E.refl _) 0 n ?_
  intro i _ _
  show E (ev (allF n) k (i + 1) (n - i) % 65537) (ev (allF n) k (i + 1) (0 + n - i))
  rw [Nat.zero_add]
  exact E.mod _
theorem q_root (n k x : Nat) (hn : n ≤ 65537) (hk : k < n) (hx : x < n) (h : x ≠ k) : E (ev (qF n k) x 0 n) 0 := by
  refine (q_E n k x).trans ?_
  have h1 := ev_div (allF n) x k 0 n
  have h2 := (all_root n x hx).sub (all_root n k hk)
  rw [h1, Int.sub_zero] at h2
  exact E.cancel (diff_not (by omega) (by omega) h) h2
/-- 'at': q at k, by Horner's rule, from the top down to j. -/
def atF (n k j : Nat) : Int := ev (qF n k) k j (n - j) % 65537
theorem atF_lo (n k j : Nat) : 0 ≤ atF n k j := by unfold atF; omega
theorem atF_hi (n k j : Nat) : atF n k j < 65537 := by unfold atF; omega
theorem atF_top (n k : Nat) : atF n k n = 0 := by unfold atF; rw [Nat.sub_self]; rfl
theorem atF_step (n k j : Nat) (h : j < n) : addF (mulF (atF n k (j + 1)) k) (qF n k j) = atF n k j := by
  unfold atF
  rw [show n - j = (n - (j + 1)) + 1 from by omega, ev_succ]
  have h1 := (addF_E (mulF (ev (qF n k) k (j + 1) (n - (j + 1)) % 65537) k) (qF n k j)).trans (((mulF_E _ _).trans ((E.mod _).mul (E.refl _))).add (E.refl _))
  have h2 := h1.emod
  rw [Int.add_comm (qF n k j), Int.mul_comm (k : Int), ← h2]
  unfold addF
  omega
theorem at_not (n k : Nat) (hn : n ≤ 65537) (hk : k < n) : ¬ E (atF n k 0) 0 := by
  intro h
  have h0 : E (ev (qF n k) k 0 n) 0 := by
    have := (E.mod (ev (qF n k) k 0 (n - 0))).symm.trans h
    exact this
  have h1 := roots n (qF n k) hn (fun x hx => by
    by_cases e : x = k
    · subst e; exact h0
    · exact q_root n k x hn hk hx e) (n - 1) (by omega)
  rw [qF_top n k (by omega), allF_top] at h1
  exact one_not_zero h1

/-! ### 'c': the sum -/
/-- The factor of the point k, y its value. -/
def sF (n k : Nat) (y : Int) : Int := mulF y (inv (atF n k 0))
theorem sF_lo (n k : Nat) (y : Int) : 0 ≤ sF n k y := mulF_lo _ _
theorem sF_hi (n k : Nat) (y : Int) : sF n k y < 65537 := mulF_hi _ _
/-- The table 'c' behind k rounds: cell j. -/
def cF (n : Nat) (y : Nat → Int) : Nat → Nat → Int
  | 0, _ => 0
  | k + 1, j => if y k = 0 then cF n y k j else addF (cF n y k j) (mulF (sF n k (y k)) (qF n k j))
theorem cF_lo (n : Nat) (y : Nat → Int) (k j : Nat) : 0 ≤ cF n y k j := by
  induction k with
  | zero => exact Int.le_refl 0
  | succ k ih => unfold cF; split; exact ih; exact addF_lo _ _
theorem cF_hi (n : Nat) (y : Nat → Int) (k j : Nat) : cF n y k j < 65537 := by
  induction k with
  | zero => exact (by decide : (0 : Int) < 65537)
  | succ k ih => unfold cF; split; exact ih; exact addF_hi _ _
theorem cF_zero (n : Nat) (y : Nat → Int) (k j : Nat) (h : y k = 0) : cF n y (k + 1) j = cF n y k j := by rw [cF, if_pos h]
theorem cF_succ (n : Nat) (y : Nat → Int) (k j : Nat) (h : y k ≠ 0) : cF n y (k + 1) j = addF (cF n y k j) (mulF (sF n k (y k)) (qF n k j)) := by rw [cF, if_neg h]
theorem sF_at (n k : Nat) (y : Int) (hn : n ≤ 65537) (hk : k < n) : E (sF n k y * ev (qF n k) k 0 n) y := by
  have h1 : E (ev (qF n k) k 0 n) (atF n k 0) := (E.mod _).symm
  have h2 := (mulF_E y (inv (atF n k 0))).mul h1
  rw [Int.mul_assoc] at h2
  have h3 := h2.trans ((E.refl y).mul (inv_mul _ (at_not n k hn hk)))
  rw [Int.mul_one] at h3
  exact h3
theorem cF_E (n : Nat) (y : Nat → Int) (k j : Nat) : E (cF n y (k + 1) j) (cF n y k j + sF n k (y k) * qF n k j) := by
  by_cases h : y k = 0
  · rw [cF_zero n y k j h]
    have : E (sF n k (y k)) 0 := by
      unfold sF
      rw [h]
      exact (mulF_E _ _).trans (by rw [Int.zero_mul]; exact E.refl _)
    have := (E.refl (cF n y k j)).add (this.mul (E.refl (qF n k j)))
    rw [Int.zero_mul, Int.add_zero] at this
    exact this.symm
  · rw [cF_succ n y k j h]
    exact (addF_E _ _).trans ((E.refl _).add (mulF_E _ _))
theorem c_at (n : Nat) (y : Nat → Int) (hn : n ≤ 65537) (k : Nat) (hk : k ≤ n) (x : Nat) (hx : x < n) :
    E (ev (cF n y k) x 0 n) (if x < k then y x else 0) := by
  induction k with
  | zero =>
    rw [if_neg (by omega)]
    have : E (ev (cF n y 0) x 0 n) (ev (fun i => 0 * i) x 0 n) := ev_E (E.refl _) 0 n (fun i _ _ => by rw [Int.zero_mul]; exact E.refl _)
    rw [ev_smul, Int.zero_mul] at this
    exact this
  | succ k ih =>
    have ih := ih (by omega)
    have h1 : E (ev (cF n y (k + 1)) x 0 n) (ev (cF n y k) x 0 n + sF n k (y k) * ev (qF n k) x 0 n) := by
      rw [← ev_smul, ← ev_add]
      exact ev_E (E.refl _) 0 n (fun i _ _ => cF_E n y k i)
    refine h1.trans ?_
    by_cases e : x = k
    · subst e
      rw [if_neg (by omega)] at ih
      rw [if_pos (by omega)]
      have := ih.add (sF_at n x (y x) hn hx)
      rwa [Int.zero_add] at this
    · have h2 := ih.add ((E.refl (sF n k (y k))).mul (q_root n k x hn (by omega) hx e))
      rw [Int.mul_zero, Int.add_zero] at h2
      refine h2.trans ?_
      by_cases hlt : x < k
      · rw [if_pos hlt, if_pos (by omega)]; exact E.refl _
      · rw [if_neg hlt, if_neg (by omega)]; exact E.refl _
/-- WHAT 'Interpolate' HANDS BACK: n coefficients. -/
def interp (n : Nat) (y : Nat → Int) (j : Nat) : Int := cF n y n j
theorem interp_lo (n : Nat) (y : Nat → Int) (j : Nat) : 0 ≤ interp n y j := cF_lo _ _ _ _
theorem interp_hi (n : Nat) (y : Nat → Int) (j : Nat) : interp n y j < 65537 := cF_hi _ _ _ _
/-- THE LAW OF LAGRANGE: at x < n it takes the value y x. -/
theorem interp_at (n : Nat) (y : Nat → Int) (hn : n ≤ 65537) (x : Nat) (hx : x < n) : E (ev (interp n y) x 0 n) (y x) := by
  have := c_at n y hn n (Nat.le_refl _) x hx
  rwa [if_pos hx] at this
theorem same_of_values (n : Nat) (f g : Nat → Int) (hn : n ≤ 65537) (h : ∀ x : Nat, x < n → E (ev f x 0 n) (ev g x 0 n)) (j : Nat) (hj : j < n) : E (f j) (g j) := by
  have := roots n (fun i => f i - g i) hn (fun x hx => by
    rw [ev_sub]
    have := (h x hx).sub (E.refl (ev g x 0 n))
    rwa [Int.sub_self] at this) j hj
  have h2 : E (f j - g j) 0 := this
  unfold E at *
  omega
/-- THE ROUND TRIP. -/
theorem interp_round (n : Nat) (f y : Nat → Int) (hn : n ≤ 65537) (hy : ∀ x : Nat, x < n → E (y x) (ev f x 0 n)) (j : Nat) (hj : j < n) : interp n y j = f j % 65537 := by
  have h := same_of_values n (interp n y) f hn (fun x hx => (interp_at n y hn x hx).trans (hy x hx)) j hj
  exact (h.trans (E.mod _).symm).eq (interp_lo _ _ _) (interp_hi _ _ _) (by omega) (by omega)
/-- LINEARITY. -/
theorem interp_add (n : Nat) (y z s : Nat → Int) (hn : n ≤ 65537) (hs : ∀ x : Nat, x < n → E (s x) (y x + z x)) (j : Nat) (hj : j < n) : interp n s j = (interp n y j + interp n z j) % 65537 := by
  have h := same_of_values n (interp n s) (fun i => interp n y i + interp n z i) hn (fun x hx => by
    rw [ev_add]
    exact (interp_at n s hn x hx).trans ((hs x hx).trans ((interp_at n y hn x hx).symm.add (interp_at n z hn x hx).symm))) j hj
  have h2 : E (interp n s j) (interp n y j + interp n z j) := h
  exact (h2.trans (E.mod _).symm).eq (interp_lo _ _ _) (interp_hi _ _ _) (by omega) (by omega)
end Go.Proofs.Qxb6602422a.Plain
