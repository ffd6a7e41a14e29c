/-
  THE WALK OF FnInterpolateIsLinear (5), out of the contracts.
-/
import Derived.Test.Qxb6602422aSmall
import Derived.Test.Qxb6602422aInterp
namespace Go.Proofs.Qxb6602422a
open Go.ChangeShapes Go.WideShapes Go.ChangeAt Go.RowKit

/-- The pointwise sum. -/
def sums (f h : Nat → Int) (x : Nat) : Int := (f x + h x) % 65537
theorem linear_law (n : Nat) (f h : Nat → Int) (hn : n ≤ 4096) (j : Nat) (hj : j < n) : Plain.interp n (sums f h) j = (Plain.interp n f j + Plain.interp n h j) % 65537 :=
  Plain.interp_add n f h (sums f h) (by omega) (fun _ _ => Plain.E.mod _) j hj
theorem u64_word' {z : Int} (h0 : 0 ≤ z) (h : z < 8589934592) : IntKind.u64.wrap z = z := by
  simp [IntKind.wrap, IntKind.signed, IntKind.bits]; omega
theorem u32_mod (z : Int) : IntKind.u32.wrap (z % 65537) = z % 65537 := by
  simp [IntKind.wrap, IntKind.signed, IntKind.bits]; omega

set_option maxRecDepth 100000 in
set_option maxHeartbeats 2000000 in
theorem linear_main (a : Option Addr) (n cap : Nat) (f : Nat → Int) (b : Option Addr) (cap' : Nat) (h : Nat → Int) (w : World) (hn : n ≤ 4096) (hx : Came w a n cap f) (hf : ∀ j, j < n → 0 ≤ f j ∧ f j < 4294967296)
    (hy : Came w b n cap' h) (hh : ∀ j, j < n → 0 ≤ h j ∧ h j < 4294967296) :
    Calls Try.prog 5 #[.slice a n cap, .slice b n cap'] w fun e w' => e = .returned (.bool true) ∧ Below w.heap.size w w' := by
  obtain ⟨i0, hi, hz0, hz1, hz2⟩ := info_parts Try.info29
  have hd : decide ((4096 : Int) < (n : Int)) = false := decide_eq_false (by omega)
  go_enter Try.func5, Try.ntmps5
  go_wp2_with (go_at_call 16; refine (bytes16_yes _ _ _ _ _ _ _ (by omega)).mono ?_; rintro e w' ⟨rfl, hw⟩; have hw2 := hw.symm; subst hw2; clear hw)
  refine (clone_any _ _ _ f _ hn hx).mono ?_
  rintro e w1 ⟨a1, rfl, hs1, hb1⟩
  have hy1 := hy.below hb1
  clear hx hy
  go_wp2_with fail
  refine (clone_any _ _ _ h _ hn hy1).mono ?_
  rintro e w2 ⟨b1, rfl, ht2, hb2⟩
  have hs2 := hs1.below hb2
  have hb02 := below_then hb1 hb2
  clear hy1 hs1 hb1 hb2
  go_wp2_with (refine wpList_make_row _ rfl _ 25 rfl 29 i0 Try.underlying25 hi hz0 hz1 hz2 .i64 _ n rfl rfl (by omega) ?_; intro g w3 hg hrow hb3)
  have hrow0 := hrow.upTo_zero (f := sums f h)
  clear hrow hi hz0 hz1 hz2
  go_loopw [6] (fun i wr => ∃ k : Nat, k ≤ n ∧ i = .int .i64 k ∧ Row wr g n (upTo k (sums f h)) ∧ Below w2.heap.size w2 wr) (fun i _ => n - (intOf i).toNat)
  case atStart => exact ⟨0, Nat.zero_le _, rfl, hrow0, hb3⟩
  case round =>
    clear hrow0 hb3
    obtain ⟨k, hk, rfl, hrw, hbl⟩ := hrel
    by_cases hlt : k < n
    · obtain ⟨g1, rfl, hr1⟩ := hs2.below hbl (by omega)
      obtain ⟨g2, rfl, hr2⟩ := ht2.below hbl (by omega)
      have c1 := hr1.cell k hlt
      have c2 := hr2.cell k hlt
      have c3 := hrw.cell k hlt
      have c4 := hrw.frozen k hlt
      have R : Row (wr.setCell ⟨g, k, none⟩ (.int .u32 ((f k + h k) % 65537))).drew g n (upTo (k + 1) (sums f h)) := (hrw.upTo_step hlt).drew
      have Bl := (hbl.setCell (p := ⟨g, k, none⟩) hg (.int .u32 ((f k + h k) % 65537))).drew
      obtain ⟨f0, f1⟩ := hf k hlt
      obtain ⟨h0, h1⟩ := hh k hlt
      have x1 : (k : Int) < (n : Int) := by omega
      have x2 : IntKind.u64.wrap (f k) = f k := u64_word' f0 (by omega)
      have x3 : IntKind.u64.wrap (h k) = h k := u64_word' h0 (by omega)
      have x4 : IntKind.u64.wrap (f k + h k) = f k + h k := u64_word' (by omega) (by omega)
      have x5 : (f k + h k).tmod 65537 = (f k + h k) % 65537 := Int.tmod_eq_emod_of_nonneg (by omega)
      have x6 : IntKind.u32.wrap ((f k + h k) % 65537) = (f k + h k) % 65537 := u32_mod _
      clear hr1 hr2 hrw hbl
      go_wp2
      go_region
      all_goals
        go_wp2
        go_roundw
        case rel => exact ⟨k + 1, by omega, by go_num, R, Bl⟩
        case measure => simp [intOf]; omega
    · obtain rfl : n = k := by omega
      have hs := hrw.upTo_full
      have hsb : ∀ j, j < n → 0 ≤ sums f h j ∧ sums f h j < 4294967296 := fun j _ => by unfold sums; omega
      have hs3 := hs2.below hbl
      have ht3 := ht2.below hbl
      have hb := below_then hb02 hbl
      clear hs2 ht2 hb02 hbl hrw hg
      go_wp2_with fail
      refine (elems_any _ _ f _ hn hs3).mono ?_
      rintro e w4 ⟨g4, rfl, _, hr4, hb4⟩
      go_wp2_with fail
      refine (interp_any _ _ f _ hn hr4 hf).mono ?_
      rintro e w5 ⟨g5, rfl, _, hr5, hb5⟩
      have b45 := below_then hb4 hb5
      have hs5 := hs.later b45
      have ht5 := ht3.below b45
      have hb' := below_then hb b45
      clear hs3 hr4 hb4 hb5 hs ht3 hb b45
      go_wp2_with fail
      refine (elems_any _ _ h _ hn ht5).mono ?_
      rintro e w6 ⟨g6, rfl, _, hr6, hb6⟩
      go_wp2_with fail
      refine (interp_any _ _ h _ hn hr6 hh).mono ?_
      rintro e w7 ⟨g7, rfl, _, hr7, hb7⟩
      have b67 := below_then hb6 hb7
      have hs7 := hs5.later b67
      have hr57 := hr5.later b67
      have hb'' := below_then hb' b67
      clear ht5 hr6 hb6 hb7 hs5 hr5 hb' b67
      go_wp2_with fail
      refine (interp_any _ _ (sums f h) _ hn hs7 hsb).mono ?_
      rintro e w8 ⟨g8, rfl, _, hr8, hb8⟩
      have hA := hr57.later hb8
      have hB := hr7.later hb8
      have hb := below_then hb'' hb8
      clear hs7 hr57 hr7 hb'' hb8 hsb
      go_wp2
      go_loopw [10] (fun i wr => ∃ m : Nat, m ≤ n ∧ i = .int .i64 m ∧ Row wr g5 n (Plain.interp n f) ∧ Row wr g7 n (Plain.interp n h) ∧ Row wr g8 n (Plain.interp n (sums f h)) ∧ Below w.heap.size w wr) (fun i _ => n - (intOf i).toNat)
      case atStart => exact ⟨0, Nat.zero_le _, rfl, hA, hB, hr8, hb⟩
      case round =>
        clear hA hB hr8 hb
        obtain ⟨m, hm, rfl, hA, hB, hS, hb⟩ := hrel
        by_cases hlt2 : m < n
        · have c1 := hA.cell m hlt2
          have c2 := hB.cell m hlt2
          have c3 := hS.cell m hlt2
          rw [linear_law n f h hn m hlt2] at c3
          have A0 := Plain.interp_lo n f m
          have A1 := Plain.interp_hi n f m
          have B0 := Plain.interp_lo n h m
          have B1 := Plain.interp_hi n h m
          have fin : Row wr.drew g5 n (Plain.interp n f) ∧ Row wr.drew g7 n (Plain.interp n h) ∧ Row wr.drew g8 n (Plain.interp n (sums f h)) ∧ Below w.heap.size w wr.drew := ⟨hA.drew, hB.drew, hS.drew, hb.drew⟩
          clear hA hB hS hb
          have FIN : Hid (Row wr.drew g5 n (Plain.interp n f) ∧ Row wr.drew g7 n (Plain.interp n h) ∧ Row wr.drew g8 n (Plain.interp n (sums f h)) ∧ Below w.heap.size w wr.drew) := fin
          clear fin
          generalize Plain.interp n f m = A at c1 c3 A0 A1
          generalize Plain.interp n h m = B at c2 c3 B0 B1
          have x1 : (m : Int) < (n : Int) := by omega
          have x2 : IntKind.u64.wrap A = A := u64_word' A0 (by omega)
          have x3 : IntKind.u64.wrap B = B := u64_word' B0 (by omega)
          have x4 : IntKind.u64.wrap (A + B) = A + B := u64_word' (by omega) (by omega)
          have x5 : (A + B).tmod 65537 = (A + B) % 65537 := Int.tmod_eq_emod_of_nonneg (by omega)
          have x6 : IntKind.u64.wrap ((A + B) % 65537) = (A + B) % 65537 := u64_word' (by omega) (by omega)
          go_wp2
          go_region
          all_goals
            go_wp2
            go_roundw
            case rel => exact ⟨m + 1, by omega, by go_num, FIN.out⟩
            case measure => simp [intOf]; omega
        · go_wp2
          go_ret
          exact ⟨rfl, hb⟩

theorem linear_great (a : Option Addr) (n cap : Nat) (b : Option Addr) (m cap' : Nat) (w : World) (h : ¬ n + m ≤ 1048576) :
    Calls Try.prog 5 #[.slice a n cap, .slice b m cap'] w fun e w' => e = .returned (.bool true) ∧ w' = w := by
  go_enter Try.func5, Try.ntmps5
  go_wp2_with (go_at_call 16; refine (bytes16_no _ _ _ _ _ _ _ h).mono ?_; rintro e w' ⟨rfl, rfl⟩)
  go_ret
  exact ⟨rfl, rfl⟩
theorem linear_long1 (a : Option Addr) (n cap : Nat) (b : Option Addr) (m cap' : Nat) (w : World) (h : n + m ≤ 1048576) (hn : ¬ n ≤ 4096) :
    Calls Try.prog 5 #[.slice a n cap, .slice b m cap'] w fun e w' => e = .returned (.bool true) ∧ w' = w := by
  have hd : decide ((4096 : Int) < (n : Int)) = true := decide_eq_true (by omega)
  go_enter Try.func5, Try.ntmps5
  go_wp2_with (go_at_call 16; refine (bytes16_yes _ _ _ _ _ _ _ h).mono ?_; rintro e w' ⟨rfl, rfl⟩)
  go_ret
  exact ⟨rfl, rfl⟩
theorem linear_long2 (a : Option Addr) (n cap : Nat) (b : Option Addr) (m cap' : Nat) (w : World) (h : n + m ≤ 1048576) (hn : n ≤ 4096) (hm : ¬ m ≤ 4096) :
    Calls Try.prog 5 #[.slice a n cap, .slice b m cap'] w fun e w' => e = .returned (.bool true) ∧ w' = w := by
  have hd : decide ((4096 : Int) < (n : Int)) = false := decide_eq_false (by omega)
  have hd2 : decide ((4096 : Int) < (m : Int)) = true := decide_eq_true (by omega)
  go_enter Try.func5, Try.ntmps5
  go_wp2_with (go_at_call 16; refine (bytes16_yes _ _ _ _ _ _ _ h).mono ?_; rintro e w' ⟨rfl, rfl⟩)
  go_ret
  exact ⟨rfl, rfl⟩
theorem linear_differ (a : Option Addr) (n cap : Nat) (b : Option Addr) (m cap' : Nat) (w : World) (hn : n ≤ 4096) (hm : m ≤ 4096) (h : n ≠ m) :
    Calls Try.prog 5 #[.slice a n cap, .slice b m cap'] w fun e w' => e = .returned (.bool true) ∧ w' = w := by
  have hd : decide ((4096 : Int) < (n : Int)) = false := decide_eq_false (by omega)
  have hd2 : decide ((4096 : Int) < (m : Int)) = false := decide_eq_false (by omega)
  have hne : ((n : Int) != (m : Int)) = true := by rw [bne_iff_ne]; omega
  clear h
  go_enter Try.func5, Try.ntmps5
  go_wp2_with (go_at_call 16; refine (bytes16_yes _ _ _ _ _ _ _ (by omega)).mono ?_; rintro e w' ⟨rfl, rfl⟩)
  go_ret
  exact ⟨rfl, rfl⟩
theorem linear_any (a : Option Addr) (n cap : Nat) (f : Nat → Int) (b : Option Addr) (m cap' : Nat) (h : Nat → Int) (w : World) (hx : Came w a n cap f) (hf : ∀ j, j < n → 0 ≤ f j ∧ f j < 4294967296)
    (hy : Came w b m cap' h) (hh : ∀ j, j < m → 0 ≤ h j ∧ h j < 4294967296) :
    Calls Try.prog 5 #[.slice a n cap, .slice b m cap'] w fun e w' => e = .returned (.bool true) ∧ Below w.heap.size w w' := by
  have done : (Calls Try.prog 5 #[.slice a n cap, .slice b m cap'] w fun e w' => e = .returned (.bool true) ∧ w' = w) → Calls Try.prog 5 #[.slice a n cap, .slice b m cap'] w fun e w' => e = .returned (.bool true) ∧ Below w.heap.size w w' := by
    intro hc
    refine hc.mono ?_
    rintro e w' ⟨rfl, rfl⟩
    exact ⟨rfl, Below.refl _ _⟩
  by_cases h1 : n + m ≤ 1048576
  · by_cases h2 : n ≤ 4096
    · by_cases h3 : m ≤ 4096
      · by_cases h4 : n = m
        · subst h4
          exact linear_main a n cap f b cap' h w h2 hx hf hy hh
        · exact done (linear_differ a n cap b m cap' w h2 h3 h4)
      · exact done (linear_long2 a n cap b m cap' w h1 h2 h3)
    · exact done (linear_long1 a n cap b m cap' w h1 h2)
  · exact done (linear_great a n cap b m cap' w h1)
end Go.Proofs.Qxb6602422a
