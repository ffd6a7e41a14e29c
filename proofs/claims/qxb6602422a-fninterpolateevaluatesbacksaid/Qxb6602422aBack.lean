/-
  THE WALK OF FnInterpolateEvaluatesBack (3), out of the contracts.
-/
import Derived.Test.Qxb6602422aSmall
import Derived.Test.Qxb6602422aInterp
namespace Go.Proofs.Qxb6602422a
open Go.ChangeShapes Go.WideShapes Go.ChangeAt Go.RowKit

theorem back_horn (n : Nat) (f : Nat → Int) (hn : n ≤ 4096) (k : Nat) (hk : k < n) : hornF (Plain.interp n f) k n 0 = f k % 65537 := by
  unfold hornF
  rw [Nat.sub_zero]
  exact (Plain.interp_at n f (by omega) k hk).emod

theorem u64_word {z : Int} (h0 : 0 ≤ z) (h : z < 4294967296) : IntKind.u64.wrap z = z := by
  simp [IntKind.wrap, IntKind.signed, IntKind.bits]; omega
theorem u64_small {p : Nat} (h : p ≤ 5000) : IntKind.u64.wrap (p : Int) = (p : Int) := u64_word (by omega) (by omega)
set_option maxRecDepth 100000 in
set_option maxHeartbeats 400000 in
theorem back_main (a : Option Addr) (n cap : Nat) (f : Nat → Int) (w : World) (hn : n ≤ 4096) (hx : Came w a n cap f) (hf : ∀ j, j < n → 0 ≤ f j ∧ f j < 4294967296) :
    Calls Try.prog 3 #[.slice a n cap] w fun e w' => e = .returned (.bool true) ∧ Below w.heap.size w w' := by
  have hd : decide ((4096 : Int) < (n : Int)) = false := decide_eq_false (by omega)
  go_enter Try.func3, Try.ntmps3
  go_wp2_with (go_at_call 9; refine (bytes9_yes _ _ _ _ (by omega)).mono ?_; rintro e w' ⟨rfl, hw⟩; have hw2 := hw.symm; subst hw2; clear hw)
  refine (clone_any _ _ _ f _ hn hx).mono ?_
  rintro e w1 ⟨a1, rfl, hs1, hb1⟩
  go_wp2_with fail
  refine (elems_any _ _ f _ hn hs1).mono ?_
  rintro e w2 ⟨g2, rfl, hg2, hr2, hb2⟩
  go_wp2_with fail
  refine (interp_any _ _ f _ hn hr2 hf).mono ?_
  rintro e w3 ⟨g3, rfl, hg3, hr3, hb3⟩
  have hs3 := (hs1.below hb2).below hb3
  have hb := below_then (below_then hb1 hb2) hb3
  clear hs1 hb1 hr2 hb2 hb3 hg2 hg3 hx
  go_wp2
  go_loop [4] (fun i => ∃ k : Nat, k ≤ n ∧ i = .int .i64 k) (fun i => n - (intOf i).toNat)
  case atStart => exact ⟨0, Nat.zero_le _, rfl⟩
  case round =>
    obtain ⟨k, hk, rfl⟩ := hrel
    by_cases hlt : k < n
    · have c1 := hr3.cell k hlt
      have p1 := Plain.interp_hi n f k
      go_wp2
      go_round
      case rel => exact ⟨k + 1, by omega, by go_num⟩
      case measure => simp [intOf]; omega
    · go_wp2
      go_loopw [5] (fun i wr => ∃ m : Nat, m ≤ n ∧ i = .int .i64 m ∧ Row wr g3 n (Plain.interp n f) ∧ Sl wr a1 n f ∧ Below w.heap.size w wr) (fun i _ => n - (intOf i).toNat)
      case atStart => exact ⟨0, Nat.zero_le _, rfl, hr3, hs3, hb⟩
      case round =>
        clear hr3 hs3 hb
        obtain ⟨m, hm, rfl, hr3, hs3, hb⟩ := hrel
        by_cases hlt2 : m < n
        · obtain ⟨g1, rfl, hr1⟩ := hs3 (by omega)
          have c1 := hr1.cell m hlt2
          obtain ⟨f0, f1⟩ := hf m hlt2
          have he := back_horn n f hn m hlt2
          have x1 : (m : Int) < (n : Int) := by omega
          have x2 : IntKind.u64.wrap (m : Int) = (m : Int) := u64_small (by omega)
          have x3 : IntKind.u64.wrap (f m) = f m := u64_word f0 f1
          have x4 : (f m).tmod 65537 = f m % 65537 := Int.tmod_eq_emod_of_nonneg f0
          have fin : Row wr.drew g3 n (Plain.interp n f) ∧ Sl wr.drew (some ⟨g1, 0, none⟩) n f ∧ Below w.heap.size w wr.drew := ⟨hr3.drew, hs3.drew, hb.drew⟩
          have hev := fun wx (hwx : Row wx g3 n (Plain.interp n f)) => evalElems_any (some ⟨g3, 0, none⟩) n (Plain.interp n f) (m : Int) wx hn (by omega) (by omega) hwx.sl (fun j _ => ⟨Plain.interp_lo n f j, by have := Plain.interp_hi n f j; omega⟩)
          rw [he] at hev
          have HEV : Hid _ := hev
          have HR : Hid (Row wr g3 n (Plain.interp n f)) := hr3
          clear hev he hr3 hs3 hb hr1
          go_wp2
          go_region_with (go_at_call 13; refine (HEV.out _ ?_).mono ?_; exact HR.out; rintro e w' ⟨rfl, rfl⟩)
          all_goals
            go_wp2
            go_roundw
            case rel => exact ⟨m + 1, by omega, by go_num, fin⟩
            case measure => simp [intOf]; omega
        · go_wp2
          go_ret
          exact ⟨rfl, hb⟩

theorem back_long (a : Option Addr) (n cap : Nat) (w : World) (hn : ¬ n ≤ 4096) (h : n ≤ 1048576) :
    Calls Try.prog 3 #[.slice a n cap] w fun e w' => e = .returned (.bool true) ∧ w' = w := by
  have h' : (4096 : Int) < (n : Int) := by omega
  go_enter Try.func3, Try.ntmps3
  go_wp2_with (go_at_call 9; refine (bytes9_yes _ _ _ _ (by omega)).mono ?_; rintro e w' ⟨rfl, rfl⟩)
  go_ret
  exact ⟨rfl, rfl⟩
theorem back_great (a : Option Addr) (n cap : Nat) (w : World) (h : ¬ n ≤ 1048576) :
    Calls Try.prog 3 #[.slice a n cap] w fun e w' => e = .returned (.bool true) ∧ w' = w := by
  go_enter Try.func3, Try.ntmps3
  go_wp2_with (go_at_call 9; refine (bytes9_no _ _ _ _ h).mono ?_; rintro e w' ⟨rfl, rfl⟩)
  go_ret
  exact ⟨rfl, rfl⟩
theorem back_any (a : Option Addr) (n cap : Nat) (f : Nat → Int) (w : World) (hx : Came w a n cap f) (hf : ∀ j, j < n → 0 ≤ f j ∧ f j < 4294967296) :
    Calls Try.prog 3 #[.slice a n cap] w fun e w' => e = .returned (.bool true) ∧ Below w.heap.size w w' := by
  by_cases h1 : n ≤ 1048576
  · by_cases h2 : n ≤ 4096
    · exact back_main a n cap f w h2 hx hf
    · refine (back_long a n cap w h2 h1).mono ?_
      rintro e w' ⟨rfl, rfl⟩
      exact ⟨rfl, Below.refl _ _⟩
  · refine (back_great a n cap w h1).mono ?_
    rintro e w' ⟨rfl, rfl⟩
    exact ⟨rfl, Below.refl _ _⟩
end Go.Proofs.Qxb6602422a
