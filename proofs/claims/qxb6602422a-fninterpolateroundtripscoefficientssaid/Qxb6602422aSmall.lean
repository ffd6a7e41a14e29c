/-
  THE WALKS OF THE LAWS' SMALL HELPERS: zzElemsB1 (12), zzCloneWordsB1 (10), zzEvalElemsB1 (13), zzEvalWordsB1 (15), the three zzBytes (9, 14, 16).
-/
import Derived.Test.Qxb6602422aMem
import Derived.Test.Qxb6602422aArith
import Derived.Test.Qxb6602422aPoly
import Derived.WalkSpells
namespace Go.Proofs.Qxb6602422a
open Go.ChangeShapes Go.WideShapes Go.ChangeAt Go.RowKit

/-- The row that has been filled up to k. -/
def upTo (k : Nat) (f : Nat → Int) (j : Nat) : Int := if j < k then f j else 0
theorem Row.upTo_step {w : World} {g n k : Nat} {f : Nat → Int} (h : Row w g n (upTo k f)) (hk : k < n) : Row (w.setCell ⟨g, k, none⟩ (.int .u32 (f k))) g n (upTo (k + 1) f) := by
  refine (h.store k hk (f k)).congr fun j hj => ?_
  show (if j = k then f k else upTo k f j) = upTo (k + 1) f j
  unfold upTo
  by_cases e : j = k
  · subst e; rw [if_pos rfl, if_pos (by omega)]
  · rw [if_neg e]
    by_cases e2 : j < k
    · rw [if_pos e2, if_pos (by omega)]
    · rw [if_neg e2, if_neg (by omega)]
theorem Row.upTo_zero {w : World} {g n : Nat} {f : Nat → Int} (h : Row w g n (fun _ => 0)) : Row w g n (upTo 0 f) := h.congr fun j _ => by unfold upTo; rw [if_neg (by omega)]
theorem Row.upTo_full {w : World} {g n : Nat} {f : Nat → Int} (h : Row w g n (upTo n f)) : Row w g n f := h.congr fun j hj => by unfold upTo; rw [if_pos hj]

theorem cell_lt {w : World} {a : Addr} {v : Value} (h : w.cell? a = some v) : a.block < w.heap.size := by
  rcases Nat.lt_or_ge a.block w.heap.size with g | g
  · exact g
  · rw [World.cell?, Array.getElem?_eq_none g] at h
    simp at h
/-- WHAT A SLICE OF THE LAW's OWN READS AS: n numbers; where there is one, its address is known. -/
def Sl (w : World) (a : Option Addr) (n : Nat) (f : Nat → Int) : Prop := 0 < n → ∃ g, a = some ⟨g, 0, none⟩ ∧ Row w g n f

set_option maxHeartbeats 400000 in
theorem elems_any (a : Option Addr) (n : Nat) (f : Nat → Int) (w : World) (hn : n ≤ 4096) (hr : Sl w a n f) :
    Calls Try.prog 12 #[.slice a n n] w fun e w' => ∃ g, e = .returned (.slice (some ⟨g, 0, none⟩) n n) ∧ w.heap.size ≤ g ∧ Row w' g n f ∧ Below w.heap.size w w' := by
  obtain ⟨i0, hi, hz0, hz1, hz2⟩ := info_parts Try.info29
  go_enter Try.func12, Try.ntmps12
  go_wp2_with (refine wpList_make_row _ rfl _ 25 rfl 29 i0 Try.underlying25 hi hz0 hz1 hz2 .i64 _ n rfl rfl (by omega) ?_; intro g w1 hg hrow hbel)
  have hrow0 := hrow.upTo_zero (f := f)
  clear hrow hi hz0 hz1 hz2
  go_loopw [4] (fun i wr => ∃ k : Nat, k ≤ n ∧ i = .int .i64 k ∧ Row wr g n (upTo k f) ∧ Below w.heap.size w wr) (fun i _ => n - (intOf i).toNat)
  case atStart => exact ⟨0, Nat.zero_le _, rfl, hrow0, hbel⟩
  case round =>
    obtain ⟨k, hk, rfl, hrw, hbl⟩ := hrel
    by_cases hlt : k < n
    · obtain ⟨gs, rfl, hsrc⟩ := hr (by omega)
      have c1 : wr.cell? ⟨gs, k, none⟩ = some (.int .u32 (f k)) := (hsrc.below hbl hsrc.lt).cell k hlt
      have c2 := hrw.cell k hlt
      have c3 := hrw.frozen k hlt
      have R := hrw.upTo_step hlt
      have Bl := hbl.setCell (p := ⟨g, k, none⟩) hg (.int .u32 (f k))
      go_wp2
      go_roundw
      case rel => exact ⟨k + 1, by omega, by go_num, R, Bl⟩
      case measure => simp [intOf]; omega
    · obtain rfl : k = n := by omega
      go_wp2
      go_ret
      exact ⟨g, rfl, hg, hrw.upTo_full, hbl⟩

/-! ### zzCloneWordsB1 -/
theorem clone_nil (w : World) :
    Calls Try.prog 10 #[.slice none 0 0] w fun e w' => e = .returned (.slice none 0 0) ∧ w' = w := by
  have q22 : ∀ (w : World) (a : Option Addr) (n c n' c' : Nat), (binOp .eql 22 (.slice a n c) (.slice none n' c')).run Try.prog w = .ok (.bool a.isNone) w := fun w a n c n' c' => Lib.run_eql_slice_nil w _ _ a n c n' c' Try.underlying22
  go_enter Try.func10, Try.ntmps10
  go_wp2
  go_ret
  exact ⟨rfl, rfl⟩

set_option maxHeartbeats 400000 in
theorem clone_row (x : Addr) (n cap : Nat) (f : Nat → Int) (w : World) (hn : n ≤ 4096) (hx : ∀ j, j < n → w.cell? (x.add j) = some (.int .u32 (f j))) :
    Calls Try.prog 10 #[.slice (some x) n cap] w fun e w' => ∃ g, e = .returned (.slice (some ⟨g, 0, none⟩) n n) ∧ w.heap.size ≤ g ∧ Row w' g n f ∧ Below w.heap.size w w' := by
  have q22 : ∀ (w : World) (a : Option Addr) (n c n' c' : Nat), (binOp .eql 22 (.slice a n c) (.slice none n' c')).run Try.prog w = .ok (.bool a.isNone) w := fun w a n c n' c' => Lib.run_eql_slice_nil w _ _ a n c n' c' Try.underlying22
  obtain ⟨i0, hi, hz0, hz1, hz2⟩ := info_parts Try.info28
  have hxx : ∀ j, j < n → x.spot = none ∧ x.block < w.heap.size ∧ w.cell? ⟨x.block, x.off + j, none⟩ = some (.int .u32 (f j)) := by
    intro j hj
    have h0 := hx j hj
    have h1 : x.spot = none := by simpa [Addr.add] using World.cell?_spot (hx 0 (by omega))
    obtain ⟨b, off, spot⟩ := x
    simp only at h1
    subst h1
    rw [add_plain] at h0
    exact ⟨rfl, cell_lt (a := ⟨b, off + j, none⟩) h0, h0⟩
  clear hx
  go_enter Try.func10, Try.ntmps10
  go_wp2_with (refine wpList_make_row _ rfl _ 22 rfl 28 i0 Try.underlying22 hi hz0 hz1 hz2 .i64 _ n rfl rfl (by omega) ?_; intro g w1 hg hrow hbel)
  have hrow0 := hrow.upTo_zero (f := f)
  clear hrow hi hz0 hz1 hz2 q22
  go_loopw [4] (fun i wr => ∃ k : Nat, k ≤ n ∧ i = .int .i64 k ∧ Row wr g n (upTo k f) ∧ Below w.heap.size w wr) (fun i _ => n - (intOf i).toNat)
  case atStart => exact ⟨0, Nat.zero_le _, rfl, hrow0, hbel⟩
  case round =>
    obtain ⟨k, hk, rfl, hrw, hbl⟩ := hrel
    by_cases hlt : k < n
    · obtain ⟨hs, hb, hc⟩ := hxx k hlt
      clear hxx
      obtain ⟨b, off, spot⟩ := x
      simp only at hs hb hc
      subst hs
      have c1 : wr.cell? ⟨b, off + k, none⟩ = some (.int .u32 (f k)) := (hbl.cell (p := ⟨b, off + k, none⟩) hb).trans hc
      have c2 := hrw.cell k hlt
      have c3 := hrw.frozen k hlt
      have R := hrw.upTo_step hlt
      have Bl := hbl.setCell (p := ⟨g, k, none⟩) hg (.int .u32 (f k))
      go_wp2
      go_roundw
      case rel => exact ⟨k + 1, by omega, by go_num, R, Bl⟩
      case measure => simp [intOf]; omega
    · obtain rfl : k = n := by omega
      go_wp2
      go_ret
      exact ⟨g, rfl, hg, hrw.upTo_full, hbl⟩

/-! ### What the laws use -/
theorem Sl.below {w w' : World} {a : Option Addr} {n : Nat} {f : Nat → Int} (h : Sl w a n f) (hb : Below w.heap.size w w') : Sl w' a n f := fun h0 => by
  obtain ⟨g, ha, hr⟩ := h h0
  exact ⟨g, ha, hr.below hb hr.lt⟩
theorem Sl.drew {w : World} {a : Option Addr} {n : Nat} {f : Nat → Int} (h : Sl w a n f) : Sl w.drew a n f := h
theorem Row.later {w w' : World} {g n : Nat} {f : Nat → Int} (h : Row w g n f) (hb : Below w.heap.size w w') : Row w' g n f := h.below hb h.lt
theorem Row.sl {w : World} {g n : Nat} {f : Nat → Int} (h : Row w g n f) : Sl w (some ⟨g, 0, none⟩) n f := fun _ => ⟨g, rfl, h⟩
theorem below_then {w w1 w2 : World} (h1 : Below w.heap.size w w1) (h2 : Below w1.heap.size w1 w2) : Below w.heap.size w w2 := h1.trans (h2.mono h1.size)
/-- WHAT CAME IN: nil, or a row of words somewhere. -/
def Came (w : World) (a : Option Addr) (n cap : Nat) (f : Nat → Int) : Prop :=
  (a = none ∧ n = 0 ∧ cap = 0) ∨ ∃ x, a = some x ∧ ∀ j, j < n → w.cell? (x.add j) = some (.int .u32 (f j))
theorem Came.below {w w' : World} {a : Option Addr} {n cap : Nat} {f : Nat → Int} (h : Came w a n cap f) (hb : Below w.heap.size w w') : Came w' a n cap f := by
  rcases h with h | ⟨x, h1, h2⟩
  · exact .inl h
  · refine .inr ⟨x, h1, fun j hj => ?_⟩
    rw [hb.cell (cell_lt (h2 j hj))]
    exact h2 j hj
theorem clone_any (a : Option Addr) (n cap : Nat) (f : Nat → Int) (w : World) (hn : n ≤ 4096) (h : Came w a n cap f) :
    Calls Try.prog 10 #[.slice a n cap] w fun e w' => ∃ a', e = .returned (.slice a' n n) ∧ Sl w' a' n f ∧ Below w.heap.size w w' := by
  rcases h with ⟨rfl, rfl, rfl⟩ | ⟨x, rfl, hx⟩
  · refine (clone_nil w).mono ?_
    rintro e w' ⟨rfl, rfl⟩
    exact ⟨none, rfl, fun h => absurd h (by omega), Below.refl _ _⟩
  · refine (clone_row x n cap f w hn hx).mono ?_
    rintro e w' ⟨g, rfl, hg, hr, hb⟩
    exact ⟨_, rfl, hr.sl, hb⟩

/-! ### zzEvalElemsB1, zzEvalWordsB1: Horner's rule -/
/-- The value from the top down to j. -/
def hornF (f : Nat → Int) (x : Int) (n j : Nat) : Int := Plain.ev f x j (n - j) % 65537
theorem hornF_lo (f : Nat → Int) (x : Int) (n j : Nat) : 0 ≤ hornF f x n j := by unfold hornF; omega
theorem hornF_hi (f : Nat → Int) (x : Int) (n j : Nat) : hornF f x n j < 65537 := by unfold hornF; omega
theorem hornF_top (f : Nat → Int) (x : Int) (n : Nat) : hornF f x n n = 0 := by unfold hornF; rw [Nat.sub_self]; rfl
theorem hornF_step (f : Nat → Int) (x : Int) (n j : Nat) (h : j < n) : (hornF f x n (j + 1) * x + f j % 65537) % 65537 = hornF f x n j := by
  unfold hornF
  rw [show n - j = (n - (j + 1)) + 1 from by omega, Plain.ev_succ]
  refine Plain.E.emod ?_
  have h1 := ((Plain.E.mod (Plain.ev f x (j + 1) (n - (j + 1)))).mul (Plain.E.refl x)).add (Plain.E.mod (f j))
  rw [Int.add_comm (f j), Int.mul_comm x]
  exact h1
theorem horn_bound (a x : Int) (ha0 : 0 ≤ a) (ha : a < 65537) (hx0 : 0 ≤ x) (hx : x < 65537) : 0 ≤ a * x ∧ a * x ≤ 4295098368 := by
  refine ⟨Int.mul_nonneg ha0 hx0, ?_⟩
  have h1 : a * x ≤ 65536 * x := Int.mul_le_mul_of_nonneg_right (by omega) hx0
  omega

set_option maxHeartbeats 400000 in
theorem evalElems_any (a : Option Addr) (n : Nat) (f : Nat → Int) (x : Int) (w : World) (hn : n ≤ 4096) (hx0 : 0 ≤ x) (hx : x < 65537) (hr : Sl w a n f) (hf : ∀ j, j < n → 0 ≤ f j ∧ f j < 4294967296) :
    Calls Try.prog 13 #[.slice a n n, .int .u64 x] w fun e w' => e = .returned (.int .u64 (hornF f x n 0)) ∧ w' = w := by
  go_enter Try.func13, Try.ntmps13
  go_wp2
  go_loop [5, 6] (fun c i => ∃ k : Nat, k ≤ n ∧ i = .int .i64 ((k : Int) - 1) ∧ c = .int .u64 (hornF f x n k)) (fun _ i => (intOf i + 1).toNat)
  case atStart => exact ⟨n, Nat.le_refl _, rfl, by rw [hornF_top]⟩
  case round =>
    obtain ⟨k, hk, rfl, rfl⟩ := hrel
    by_cases hlt : 0 < k
    · obtain ⟨m, rfl⟩ : ∃ m, k = m + 1 := ⟨k - 1, by omega⟩
      rw [show ((m + 1 : Nat) : Int) - 1 = (m : Int) from by omega]
      obtain ⟨gs, rfl, hsrc⟩ := hr (by omega)
      have c1 := hsrc.cell m (by omega)
      have hm : m < n := by omega
      obtain ⟨f0, f1⟩ := hf m (by omega)
      have a0 := hornF_lo f x n (m + 1)
      have a1 := hornF_hi f x n (m + 1)
      obtain ⟨b0, b1⟩ := horn_bound _ x a0 a1 hx0 hx
      have HS : Hid ((hornF f x n (m + 1) * x + f m % 65537) % 65537 = hornF f x n m) := hornF_step f x n m (by omega)
      go_wp2
      go_round
      case rel => exact ⟨m, by omega, by go_num, by rw [HS.out]⟩
      case measure => simp [intOf]
    · obtain rfl : k = 0 := by omega
      go_wp2
      go_ret
      exact ⟨rfl, rfl⟩
set_option maxHeartbeats 400000 in
theorem evalWords_any (a : Option Addr) (n : Nat) (f : Nat → Int) (x : Int) (w : World) (hn : n ≤ 4096) (hx0 : 0 ≤ x) (hx : x < 65537) (hr : Sl w a n f) (hf : ∀ j, j < n → 0 ≤ f j ∧ f j < 4294967296) :
    Calls Try.prog 15 #[.slice a n n, .int .u64 x] w fun e w' => e = .returned (.int .u64 (hornF f x n 0)) ∧ w' = w := by
  go_enter Try.func15, Try.ntmps15
  go_wp2
  go_loop [5, 6] (fun c i => ∃ k : Nat, k ≤ n ∧ i = .int .i64 ((k : Int) - 1) ∧ c = .int .u64 (hornF f x n k)) (fun _ i => (intOf i + 1).toNat)
  case atStart => exact ⟨n, Nat.le_refl _, rfl, by rw [hornF_top]⟩
  case round =>
    obtain ⟨k, hk, rfl, rfl⟩ := hrel
    by_cases hlt : 0 < k
    · obtain ⟨m, rfl⟩ : ∃ m, k = m + 1 := ⟨k - 1, by omega⟩
      rw [show ((m + 1 : Nat) : Int) - 1 = (m : Int) from by omega]
      obtain ⟨gs, rfl, hsrc⟩ := hr (by omega)
      have c1 := hsrc.cell m (by omega)
      have hm : m < n := by omega
      obtain ⟨f0, f1⟩ := hf m (by omega)
      have a0 := hornF_lo f x n (m + 1)
      have a1 := hornF_hi f x n (m + 1)
      obtain ⟨b0, b1⟩ := horn_bound _ x a0 a1 hx0 hx
      have HS : Hid ((hornF f x n (m + 1) * x + f m % 65537) % 65537 = hornF f x n m) := hornF_step f x n m (by omega)
      go_wp2
      go_round
      case rel => exact ⟨m, by omega, by go_num, by rw [HS.out]⟩
      case measure => simp [intOf]
    · obtain rfl : k = 0 := by omega
      go_wp2
      go_ret
      exact ⟨rfl, rfl⟩

/-! ### The bounds on the total length -/
theorem bytes9_yes (a : Option Addr) (n cap : Nat) (w : World) (h : n ≤ 1048576) :
    Calls Try.prog 9 #[.slice a n cap] w fun e w' => e = .returned (.bool true) ∧ w' = w := by
  go_enter Try.func9, Try.ntmps9
  go_wp2
  go_ret
  exact ⟨rfl, rfl⟩
theorem bytes9_no (a : Option Addr) (n cap : Nat) (w : World) (h : ¬ n ≤ 1048576) :
    Calls Try.prog 9 #[.slice a n cap] w fun e w' => e = .returned (.bool false) ∧ w' = w := by
  have h' : (1048576 : Int) < (n : Int) := by omega
  go_enter Try.func9, Try.ntmps9
  go_wp2
  go_ret
  exact ⟨rfl, rfl⟩
theorem bytes14_yes (a : Option Addr) (n cap : Nat) (w : World) (h : n ≤ 1048576) :
    Calls Try.prog 14 #[.slice a n cap] w fun e w' => e = .returned (.bool true) ∧ w' = w := by
  go_enter Try.func14, Try.ntmps14
  go_wp2
  go_ret
  exact ⟨rfl, rfl⟩
theorem bytes14_no (a : Option Addr) (n cap : Nat) (w : World) (h : ¬ n ≤ 1048576) :
    Calls Try.prog 14 #[.slice a n cap] w fun e w' => e = .returned (.bool false) ∧ w' = w := by
  have h' : (1048576 : Int) < (n : Int) := by omega
  go_enter Try.func14, Try.ntmps14
  go_wp2
  go_ret
  exact ⟨rfl, rfl⟩
theorem bytes16_yes (a : Option Addr) (n cap : Nat) (b : Option Addr) (m cap' : Nat) (w : World) (h : n + m ≤ 1048576) :
    Calls Try.prog 16 #[.slice a n cap, .slice b m cap'] w fun e w' => e = .returned (.bool true) ∧ w' = w := by
  go_enter Try.func16, Try.ntmps16
  go_wp2
  go_ret
  exact ⟨rfl, rfl⟩
theorem bytes16_no (a : Option Addr) (n cap : Nat) (b : Option Addr) (m cap' : Nat) (w : World) (h : ¬ n + m ≤ 1048576) :
    Calls Try.prog 16 #[.slice a n cap, .slice b m cap'] w fun e w' => e = .returned (.bool false) ∧ w' = w := by
  by_cases h1 : (1048576 : Int) < (n : Int)
  · go_enter Try.func16, Try.ntmps16
    go_wp2
    go_ret
    exact ⟨rfl, rfl⟩
  · by_cases h2 : (1048576 : Int) < (m : Int)
    · go_enter Try.func16, Try.ntmps16
      go_wp2
      go_ret
      exact ⟨rfl, rfl⟩
    · have h3 : (1048576 : Int) < (n : Int) + (m : Int) := by omega
      go_enter Try.func16, Try.ntmps16
      go_wp2
      go_ret
      exact ⟨rfl, rfl⟩
end Go.Proofs.Qxb6602422a
