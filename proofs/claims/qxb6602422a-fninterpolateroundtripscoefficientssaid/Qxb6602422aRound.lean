/-
  THE WALK OF FnInterpolateRoundTripsCoefficients (4), out of the contracts.
-/
import Derived.Test.Qxb6602422aSmall
import Derived.Test.Qxb6602422aInterp
namespace Go.Proofs.Qxb6602422a
open Go.ChangeShapes Go.WideShapes Go.ChangeAt Go.RowKit

/-- The polynomial's values at 0, 1, .. -/
def vals (f : Nat → Int) (n x : Nat) : Int := hornF f x n 0
theorem round_law (n : Nat) (f : Nat → Int) (hn : n ≤ 4096) (j : Nat) (hj : j < n) : Plain.interp n (vals f n) j = f j % 65537 :=
  Plain.interp_round n f (vals f n) (by omega) (fun x _ => Plain.E.mod _) j hj

set_option maxRecDepth 100000 in
set_option maxHeartbeats 1000000 in
theorem round_main (a : Option Addr) (n cap : Nat) (f : Nat → Int) (w : World) (hn : n ≤ 4096) (hx : Came w a n cap f) (hf : ∀ j, j < n → 0 ≤ f j ∧ f j < 4294967296) :
    Calls Try.prog 4 #[.slice a n cap] w fun e w' => e = .returned (.bool true) ∧ Below w.heap.size w w' := by
  obtain ⟨i0, hi, hz0, hz1, hz2⟩ := info_parts Try.info29
  have hd : decide ((4096 : Int) < (n : Int)) = false := decide_eq_false (by omega)
  go_enter Try.func4, Try.ntmps4
  go_wp2_with (go_at_call 14; refine (bytes14_yes _ _ _ _ (by omega)).mono ?_; rintro e w' ⟨rfl, hw⟩; have hw2 := hw.symm; subst hw2; clear hw)
  refine (clone_any _ _ _ f _ hn hx).mono ?_
  rintro e w1 ⟨a1, rfl, hs1, hb1⟩
  go_wp2_with (refine wpList_make_row _ rfl _ 25 rfl 29 i0 Try.underlying25 hi hz0 hz1 hz2 .i64 _ n rfl rfl (by omega) ?_; intro g w2 hg hrow hb2)
  have hrow0 := hrow.upTo_zero (f := vals f n)
  clear hrow hi hz0 hz1 hz2 hx
  go_loopw [4] (fun i wr => ∃ k : Nat, k ≤ n ∧ i = .int .i64 k ∧ Row wr g n (upTo k (vals f n)) ∧ Below w1.heap.size w1 wr) (fun i _ => n - (intOf i).toNat)
  case atStart => exact ⟨0, Nat.zero_le _, rfl, hrow0, hb2⟩
  case round =>
    clear hrow0 hb2
    obtain ⟨k, hk, rfl, hrw, hbl⟩ := hrel
    by_cases hlt : k < n
    · have hsw := hs1.below hbl
      have v0 := hornF_lo f (k : Int) n 0
      have v1 := hornF_hi f (k : Int) n 0
      have c2 := hrw.cell k hlt
      have c3 := hrw.frozen k hlt
      have R : Row (wr.setCell ⟨g, k, none⟩ (.int .u32 (hornF f (k : Int) n 0))) g n (upTo (k + 1) (vals f n)) := hrw.upTo_step hlt
      have Bl := hbl.setCell (p := ⟨g, k, none⟩) hg (.int .u32 (hornF f (k : Int) n 0))
      go_wp2_with (go_at_call 15; refine (evalWords_any _ _ f _ _ hn (by omega) (by omega) hsw hf).mono ?_; rintro e w' ⟨rfl, rfl⟩)
      go_roundw
      case rel => exact ⟨k + 1, by omega, by go_num, R, Bl⟩
      case measure => simp [intOf]; omega
    · obtain rfl : n = k := by omega
      have hv : ∀ j, j < n → 0 ≤ vals f n j ∧ vals f n j < 4294967296 := fun j _ => ⟨hornF_lo _ _ _ _, by have := hornF_hi f (j : Int) n 0; unfold vals; omega⟩
      go_wp2_with fail
      refine (interp_any _ _ (vals f n) _ hn hrw.upTo_full hv).mono ?_
      rintro e w3 ⟨g3, rfl, hg3, hr3, hb3⟩
      have hs3 := hs1.below (below_then hbl hb3)
      have hb := below_then hb1 (below_then hbl hb3)
      clear hs1 hb1 hbl hb3 hrw hg hg3 hv
      go_wp2
      go_loopw [6] (fun i wr => ∃ m : Nat, m ≤ n ∧ i = .int .i64 m ∧ Row wr g3 n (Plain.interp n (vals f n)) ∧ Sl wr a1 n f ∧ Below w.heap.size w wr) (fun i _ => n - (intOf i).toNat)
      case atStart => exact ⟨0, Nat.zero_le _, rfl, hr3, hs3, hb⟩
      case round =>
        clear hr3 hs3 hb
        obtain ⟨m, hm, rfl, hr3, hs3, hb⟩ := hrel
        by_cases hlt2 : m < n
        · obtain ⟨g1, rfl, hr1⟩ := hs3 (by omega)
          have c1 := hr1.cell m hlt2
          have c2 := hr3.cell m hlt2
          rw [round_law n f hn m hlt2] at c2
          obtain ⟨f0, f1⟩ := hf m hlt2
          have x1 : (m : Int) < (n : Int) := by omega
          have x4 : (f m).tmod 65537 = f m % 65537 := Int.tmod_eq_emod_of_nonneg f0
          have fin : Row wr.drew g3 n (Plain.interp n (vals f n)) ∧ Sl wr.drew (some ⟨g1, 0, none⟩) n f ∧ Below w.heap.size w wr.drew := ⟨hr3.drew, hs3.drew, hb.drew⟩
          clear hr3 hs3 hb hr1
          go_wp2
          go_region
          all_goals
            go_wp2
            go_roundw
            case rel => exact ⟨m + 1, by omega, by go_num, fin⟩
            case measure => simp [intOf]; omega
        · go_wp2
          go_ret
          exact ⟨rfl, hb⟩

theorem round_long (a : Option Addr) (n cap : Nat) (w : World) (hn : ¬ n ≤ 4096) (h : n ≤ 1048576) :
    Calls Try.prog 4 #[.slice a n cap] w fun e w' => e = .returned (.bool true) ∧ w' = w := by
  have h' : (4096 : Int) < (n : Int) := by omega
  go_enter Try.func4, Try.ntmps4
  go_wp2_with (go_at_call 14; refine (bytes14_yes _ _ _ _ (by omega)).mono ?_; rintro e w' ⟨rfl, rfl⟩)
  go_ret
  exact ⟨rfl, rfl⟩
theorem round_great (a : Option Addr) (n cap : Nat) (w : World) (h : ¬ n ≤ 1048576) :
    Calls Try.prog 4 #[.slice a n cap] w fun e w' => e = .returned (.bool true) ∧ w' = w := by
  go_enter Try.func4, Try.ntmps4
  go_wp2_with (go_at_call 14; refine (bytes14_no _ _ _ _ h).mono ?_; rintro e w' ⟨rfl, rfl⟩)
  go_ret
  exact ⟨rfl, rfl⟩
theorem round_any (a : Option Addr) (n cap : Nat) (f : Nat → Int) (w : World) (hx : Came w a n cap f) (hf : ∀ j, j < n → 0 ≤ f j ∧ f j < 4294967296) :
    Calls Try.prog 4 #[.slice a n cap] w fun e w' => e = .returned (.bool true) ∧ Below w.heap.size w w' := by
  by_cases h1 : n ≤ 1048576
  · by_cases h2 : n ≤ 4096
    · exact round_main a n cap f w h2 hx hf
    · refine (round_long a n cap w h2 h1).mono ?_
      rintro e w' ⟨rfl, rfl⟩
      exact ⟨rfl, Below.refl _ _⟩
  · refine (round_great a n cap w h1).mono ?_
    rintro e w' ⟨rfl, rfl⟩
    exact ⟨rfl, Below.refl _ _⟩
end Go.Proofs.Qxb6602422a
