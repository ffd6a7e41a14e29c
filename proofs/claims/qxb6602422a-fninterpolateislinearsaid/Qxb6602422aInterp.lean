/-
  THE WALK OF field.Interpolate (11).
-/
import Derived.Test.Qxb6602422aMem
import Derived.Test.Qxb6602422aArith
import Derived.Test.Qxb6602422aPoly
import Derived.WalkSpells
namespace Go.Proofs.Qxb6602422a
open Go.ChangeShapes Go.WideShapes Go.ChangeAt Go.RowKit

theorem i64_small {p : Nat} (h : p ≤ 5000) : IntKind.i64.wrap (p : Int) = (p : Int) := by
  rw [IntWalk.i64_left]
  exact IntWalk.wrap64_in _ ⟨by omega, by omega⟩
theorem u32_small {p : Nat} (h : p ≤ 5000) : IntKind.u32.wrap (p : Int) = (p : Int) := by
  simp [IntKind.wrap, IntKind.signed, IntKind.bits]; omega
/-- 'all' in the midst of round k: the cells above m are new. -/
def mid (k m x : Nat) : Int := if x ≤ m then Plain.allF k x else Plain.allF (k + 1) x
theorem mid_start {w : World} {g n k : Nat} (h : Row w g n (Plain.allF k)) : Row w g n (mid k (k + 1)) := h.congr fun x _ => by
  unfold mid
  by_cases e : x ≤ k + 1
  · rw [if_pos e]
  · rw [if_neg e, Plain.allF_past k x (by omega), Plain.allF_past (k + 1) x (by omega)]
theorem mid_step {w : World} {g n k p : Nat} (h : Row w g n (mid k (p + 1))) (hp : p + 1 < n) :
    Row (w.setCell ⟨g, p + 1, none⟩ (.int .u32 (Plain.subF (Plain.allF k p) (Plain.mulF (Plain.allF k (p + 1)) k)))) g n (mid k p) := by
  refine (h.store (p + 1) hp _).congr fun x _ => ?_
  show (if x = p + 1 then _ else mid k (p + 1) x) = mid k p x
  unfold mid
  by_cases e : x = p + 1
  · subst e; rw [if_pos rfl, if_neg (by omega)]; rfl
  · rw [if_neg e]
    by_cases e2 : x ≤ p
    · rw [if_pos e2, if_pos (by omega)]
    · rw [if_neg e2, if_neg (by omega)]
theorem mid_stop {w : World} {g n k : Nat} (h : Row w g n (mid k 0)) (hn : 0 < n) :
    Row (w.setCell ⟨g, 0, none⟩ (.int .u32 (Plain.subF 0 (Plain.mulF (Plain.allF k 0) k)))) g n (Plain.allF (k + 1)) := by
  refine (h.store 0 hn _).congr fun x _ => ?_
  show (if x = 0 then _ else mid k 0 x) = Plain.allF (k + 1) x
  unfold mid
  by_cases e : x = 0
  · subst e; rw [if_pos rfl]; rfl
  · rw [if_neg e, if_neg (by omega)]
theorem all_start {w : World} {g n : Nat} (h : Row w g n (fun _ => 0)) (hn : 0 < n) : Row (w.setCell ⟨g, 0, none⟩ (.int .u32 1)) g n (Plain.allF 0) := by
  refine (h.store 0 hn 1).congr fun x _ => ?_
  show (if x = 0 then (1 : Int) else 0) = Plain.allF 0 x
  match x with
  | 0 => rfl
  | _ + 1 => rfl
theorem mid_lo {k m x : Nat} (h : x ≤ m) : mid k m x = Plain.allF k x := by unfold mid; rw [if_pos h]

/-- THE THREE TABLES of Interpolate, in three blocks; nothing that was there has turned. -/
structure St (w wr : World) (g gc gq n : Nat) (c q : Nat → Int) : Prop where
  all : Row wr g (n + 1) (Plain.allF n)
  c : Row wr gc n c
  q : Row wr gq n q
  bel : Below w.heap.size w wr
theorem St.drew {w wr : World} {g gc gq n : Nat} {c q : Nat → Int} (h : St w wr g gc gq n c q) : St w wr.drew g gc gq n c q := ⟨h.all.drew, h.c.drew, h.q.drew, h.bel.drew⟩
theorem St.c_congr {w wr : World} {g gc gq n : Nat} {c c' q : Nat → Int} (h : St w wr g gc gq n c q) (e : ∀ x, x < n → c x = c' x) : St w wr g gc gq n c' q := ⟨h.all, h.c.congr e, h.q, h.bel⟩
theorem St.q_congr {w wr : World} {g gc gq n : Nat} {c q q' : Nat → Int} (h : St w wr g gc gq n c q) (e : ∀ x, x < n → q x = q' x) : St w wr g gc gq n c q' := ⟨h.all, h.c, h.q.congr e, h.bel⟩
theorem St.store_q {w wr : World} {g gc gq n : Nat} {c q : Nat → Int} (h : St w wr g gc gq n c q) (h1 : g < gc) (h2 : gc < gq) (h3 : w.heap.size ≤ g) (i : Nat) (hi : i < n) (v : Int) :
    St w (wr.setCell ⟨gq, i, none⟩ (.int .u32 v)) g gc gq n c (fun j => if j = i then v else q j) :=
  ⟨h.all.other (by show gq ≠ g; omega) _, h.c.other (by show gq ≠ gc; omega) _, h.q.store i hi v, h.bel.setCell (by show _ ≤ gq; omega) _⟩
theorem St.store_c {w wr : World} {g gc gq n : Nat} {c q : Nat → Int} (h : St w wr g gc gq n c q) (h1 : g < gc) (h2 : gc < gq) (h3 : w.heap.size ≤ g) (i : Nat) (hi : i < n) (v : Int) :
    St w (wr.setCell ⟨gc, i, none⟩ (.int .u32 v)) g gc gq n (fun j => if j = i then v else c j) q :=
  ⟨h.all.other (by show gc ≠ g; omega) _, h.c.store i hi v, h.q.other (by show gc ≠ gq; omega) _, h.bel.setCell (by show _ ≤ gc; omega) _⟩
theorem St.start {w wr w2 w3 : World} {g gc gq n : Nat} (hrw : Row wr g (n + 1) (Plain.allF n)) (hbl : Below w.heap.size w wr)
    (hg2 : wr.heap.size ≤ gc) (r2 : Row w2 gc n (fun _ => 0)) (b2 : Below wr.heap.size wr w2) (hg3 : w2.heap.size ≤ gq) (r3 : Row w3 gq n (fun _ => 0)) (b3 : Below w2.heap.size w2 w3) :
    g < gc ∧ gc < gq ∧ St w w3 g gc gq n (fun _ => 0) (fun _ => 0) := by
  have l1 := hrw.lt
  have l2 := r2.lt
  have s1 := hbl.size
  have s2 := b2.size
  exact ⟨by omega, by omega, ⟨(hrw.below b2 l1).below b3 (by omega), r2.below b3 l2, r3, (hbl.trans (b2.mono (by omega))).trans (b3.mono (by omega))⟩⟩
/-- 'q' is right from m on. -/
def QFrom (n k m : Nat) (q : Nat → Int) : Prop := ∀ x, m ≤ x → x < n → q x = Plain.qF n k x
theorem QFrom.top {n k : Nat} {q : Nat → Int} (hn : 0 < n) : QFrom n k (n - 1) (fun j => if j = n - 1 then Plain.allF n n else q j) := by
  intro x h1 h2
  obtain rfl : x = n - 1 := by omega
  show (if n - 1 = n - 1 then Plain.allF n n else _) = _
  rw [if_pos rfl, Plain.qF_top n k hn]
theorem QFrom.step {n k m p : Nat} {q : Nat → Int} (h : QFrom n k m q) (hm : m = p + 1) (hmn : m < n) :
    QFrom n k p (fun j => if j = p then Plain.addF (Plain.allF n m) (Plain.mulF k (Plain.qF n k m)) else q j) := by
  intro x h1 h2
  show (if x = p then _ else q x) = _
  by_cases e : x = p
  · rw [if_pos e, Plain.qF_step n k m (by omega) hmn, e]
    congr 1
    omega
  · rw [if_neg e]
    exact h x (by omega) h2
/-- 'c' in the midst of round k: the cells below m are new. -/
def cmid (n : Nat) (y : Nat → Int) (k m x : Nat) : Int := if x < m then Plain.cF n y (k + 1) x else Plain.cF n y k x
theorem cmid_step {n k m : Nat} {y : Nat → Int} (hy : y k ≠ 0) (x : Nat) :
    (if x = m then Plain.addF (Plain.cF n y k m) (Plain.mulF (Plain.sF n k (y k)) (Plain.qF n k m)) else cmid n y k m x) = cmid n y k (m + 1) x := by
  unfold cmid
  by_cases e : x = m
  · rw [if_pos e, if_pos (by omega), e, Plain.cF_succ n y k m hy]
  · rw [if_neg e]
    by_cases e2 : x < m
    · rw [if_pos e2, if_pos (by omega)]
    · rw [if_neg e2, if_neg (by omega)]
theorem cmid_zero (n : Nat) (y : Nat → Int) (k x : Nat) : cmid n y k 0 x = Plain.cF n y k x := by unfold cmid; rw [if_neg (by omega)]
theorem cmid_at (n : Nat) (y : Nat → Int) (k m : Nat) : cmid n y k m m = Plain.cF n y k m := by unfold cmid; rw [if_neg (by omega)]
theorem cmid_full {n x : Nat} (y : Nat → Int) (k : Nat) (h : x < n) : cmid n y k n x = Plain.cF n y (k + 1) x := by unfold cmid; rw [if_pos h]
theorem i64_sub_one {m p : Nat} (h : m = p + 1) (hm : m ≤ 5000) : IntKind.i64.wrap ((m : Int) - 1) = (p : Int) := by
  rw [show ((m : Int) - 1) = (p : Int) from by omega]
  exact i64_small (by omega)
set_option maxRecDepth 100000 in
set_option maxHeartbeats 16000000 in
theorem interp_any (gy n : Nat) (y : Nat → Int) (w : World) (hn : n ≤ 4096) (hy : Row w gy n y) (hyb : ∀ j, j < n → 0 ≤ y j ∧ y j < 4294967296) :
    Calls Try.prog 11 #[.slice (some ⟨gy, 0, none⟩) n n] w fun e w' => ∃ g, e = .returned (.slice (some ⟨g, 0, none⟩) n n) ∧ w.heap.size ≤ g ∧ Row w' g n (Plain.interp n y) ∧ Below w.heap.size w w' := by
  obtain ⟨i0, hi, hz0, hz1, hz2⟩ := info_parts Try.info29
  go_enter Try.func11, Try.ntmps11
  go_wp2_with (refine wpList_make_row _ rfl _ 25 rfl 29 i0 Try.underlying25 hi hz0 hz1 hz2 .i64 _ (n + 1) rfl (by omega) (by omega) ?_; intro g w1 hg hrow hbel; have c0 := hrow.cell 0 (by omega); have f0 := hrow.frozen 0 (by omega))
  have hall := all_start hrow (by omega)
  have hbl := hbel.setCell (p := ⟨g, 0, none⟩) hg (.int .u32 1)
  clear hrow hbel c0 f0
  go_loopw [24] (fun i wr => ∃ k : Nat, k ≤ n ∧ i = .int .i64 k ∧ Row wr g (n + 1) (Plain.allF k) ∧ Below w.heap.size w wr) (fun i _ => n - (intOf i).toNat)
  case atStart => exact ⟨0, Nat.zero_le _, rfl, hall, hbl⟩
  case round =>
    clear hall hbl
    obtain ⟨k, hk, rfl, hrw, hbl⟩ := hrel
    by_cases hlt : k < n
    · have hmid := mid_start hrw
      clear hrw
      go_wp2
      go_loopw [6] (fun j wr => ∃ m : Nat, m ≤ k + 1 ∧ j = .int .i64 m ∧ Row wr g (n + 1) (mid k m) ∧ Below w.heap.size w wr) (fun j _ => (intOf j).toNat)
      case atStart => exact ⟨k + 1, Nat.le_refl _, by go_num, hmid, hbl⟩
      case round =>
        clear hmid hbl
        obtain ⟨m, hm, rfl, hrw, hbl⟩ := hrel
        by_cases hm0 : 0 < m
        · obtain ⟨p, hpm⟩ : ∃ p, m = p + 1 := ⟨m - 1, by omega⟩
          have hrp : Row wr g (n + 1) (mid k (p + 1)) := by rw [← hpm]; exact hrw
          have c1 := hrp.cell p (by omega)
          have c2 := hrw.cell m (by omega)
          have f2 := hrw.frozen m (by omega)
          rw [mid_lo (by omega)] at c1 c2
          have a0 := Plain.allF_lo k p
          have a1 := Plain.allF_hi k p
          have b0 := Plain.allF_lo k m
          have b1 := Plain.allF_hi k m
          have d0 := Plain.mulF_lo (Plain.allF k m) k
          have d1 := Plain.mulF_hi (Plain.allF k m) k
          have R : Row (wr.setCell ⟨g, m, none⟩ (.int .u32 (Plain.subF (Plain.allF k p) (Plain.mulF (Plain.allF k m) k)))) g (n + 1) (mid k p) := by
            rw [hpm]; exact mid_step hrp (by omega)
          have Bl := hbl.setCell (p := ⟨g, m, none⟩) hg (.int .u32 (Plain.subF (Plain.allF k p) (Plain.mulF (Plain.allF k m) k)))
          have x1 : (p : Int) < (n : Int) + 1 := by omega
          have x2 : (m : Int) < (n : Int) + 1 := by omega
          have x3 : IntKind.i64.wrap ((m : Int) - 1) = (p : Int) := i64_sub_one hpm (by omega)
          have x4 : IntKind.u32.wrap (k : Int) = (k : Int) := u32_small (by omega)
          have HP : Hid (m = p + 1) := hpm
          clear hpm hrp
          go_wp2
          go_region_with (first | (go_at_call 20; refine (mul_any _ _ _ (by omega) (by omega) (by omega) (by omega)).mono ?_; rintro e w' ⟨rfl, rfl⟩) | (go_at_call 19; refine (sub_any _ _ _ (by omega) (by omega) (by omega) (by omega)).mono ?_; rintro e w' ⟨rfl, rfl⟩))
          all_goals
            go_wp2
            go_roundw
            case rel => exact ⟨p, by have := HP.out; omega, by have := HP.out; go_num, R.drew, Bl.drew⟩
            case measure => have := HP.out; simp [intOf]; omega
        · obtain rfl : m = 0 := by omega
          have c1 := hrw.cell 0 (by omega)
          have f1 := hrw.frozen 0 (by omega)
          rw [mid_lo (by omega)] at c1
          have a0 := Plain.allF_lo k 0
          have a1 := Plain.allF_hi k 0
          have d0 := Plain.mulF_lo (Plain.allF k 0) k
          have d1 := Plain.mulF_hi (Plain.allF k 0) k
          have R := mid_stop hrw (by omega)
          have Bl := hbl.setCell (p := ⟨g, 0, none⟩) hg (.int .u32 (Plain.subF 0 (Plain.mulF (Plain.allF k 0) k)))
          go_wp2_with (first | (go_at_call 20; refine (mul_any _ _ _ (by omega) (by omega) (by omega) (by omega)).mono ?_; rintro e w' ⟨rfl, rfl⟩) | (go_at_call 19; refine (sub_any _ _ _ (by omega) (by omega) (by omega) (by omega)).mono ?_; rintro e w' ⟨rfl, rfl⟩))
          go_roundw
          case rel => exact ⟨k + 1, by omega, by go_num, R, Bl⟩
          case measure => simp [intOf]; omega
    · obtain rfl : n = k := by omega
      clear hk hlt
      go_wp2_with (first | (refine wpList_make_row _ rfl (.tmp 59) 25 rfl 29 i0 Try.underlying25 hi hz0 hz1 hz2 .i64 _ n rfl rfl (by omega) ?_; intro gc w2 hg2 r2 b2) | (refine wpList_make_row _ rfl (.tmp 61) 25 rfl 29 i0 Try.underlying25 hi hz0 hz1 hz2 .i64 _ n rfl rfl (by omega) ?_; intro gq w3 hg3 r3 b3))
      obtain ⟨l1, l2, hst⟩ := St.start hrw hbl hg2 r2 b2 hg3 r3 b3
      clear hrw hbl hg2 r2 b2 hg3 r3 b3 hi hz0 hz1 hz2
      go_loopw [65] (fun i wr => ∃ k : Nat, k ≤ n ∧ i = .int .i64 k ∧ ∃ q, St w wr g gc gq n (Plain.cF n y k) q) (fun i _ => n - (intOf i).toNat)
      case atStart => exact ⟨0, Nat.zero_le _, rfl, _, hst⟩
      case round =>
        clear hst
        obtain ⟨k, hk, rfl, q, hst⟩ := hrel
        by_cases hlt : k < n
        · have cy := (hy.below hst.bel hy.lt).cell k hlt
          obtain ⟨y0, y1⟩ := hyb k hlt
          by_cases hy0 : y k = 0
          · have e0 : (y k == 0) = true := by simp [hy0]
            have hst2 := hst.c_congr (fun x _ => (Plain.cF_zero n y k x hy0).symm)
            clear hst hy0
            go_wp2
            go_roundw
            case rel => exact ⟨k + 1, by omega, by go_num, _, hst2⟩
            case measure => simp [intOf]; omega
          · have e0 : (y k == 0) = false := by simp [hy0]
            have cA := hst.all.cell n (by omega)
            have cQ := hst.q.cell (n - 1) (by omega)
            have fQ := hst.q.frozen (n - 1) (by omega)
            have hst2 := hst.store_q l1 l2 hg (n - 1) (by omega) (Plain.allF n n)
            have hq2 := QFrom.top (k := k) (q := q) (show 0 < n by omega)
            clear hst
            go_wp2
            clear cA cQ fQ
            go_loopw [11] (fun j wr => ∃ m : Nat, m < n ∧ j = .int .i64 m ∧ ∃ q, St w wr g gc gq n (Plain.cF n y k) q ∧ QFrom n k m q) (fun j _ => (intOf j).toNat)
            case atStart => exact ⟨n - 1, by omega, by go_num, _, hst2, hq2⟩
            case round =>
              clear hst2 hq2
              obtain ⟨m, hm, rfl, q, hst, hq⟩ := hrel
              by_cases hm0 : 0 < m
              · obtain ⟨p, hpm⟩ : ∃ p, m = p + 1 := ⟨m - 1, by omega⟩
                have c1 := hst.all.cell m (by omega)
                have c2 := hst.q.cell m (by omega)
                rw [hq m (Nat.le_refl _) hm] at c2
                have c3 := hst.q.cell p (by omega)
                have f3 := hst.q.frozen p (by omega)
                have a0 := Plain.allF_lo n m
                have a1 := Plain.allF_hi n m
                have b0 := Plain.qF_lo n k m
                have b1 := Plain.qF_hi n k m
                have d0 := Plain.mulF_lo k (Plain.qF n k m)
                have d1 := Plain.mulF_hi k (Plain.qF n k m)
                have hst2 := (hst.store_q l1 l2 hg p (by omega) (Plain.addF (Plain.allF n m) (Plain.mulF k (Plain.qF n k m)))).drew
                have hq2 := hq.step hpm hm
                have x1 : (p : Int) < (n : Int) := by omega
                have x2 : (m : Int) < (n : Int) + 1 := by omega
                have x2' : (m : Int) < (n : Int) := by omega
                have x3 : IntKind.i64.wrap ((m : Int) - 1) = (p : Int) := i64_sub_one hpm (by omega)
                have x4 : IntKind.u32.wrap (k : Int) = (k : Int) := u32_small (by omega)
                have HP : Hid (m = p + 1) := hpm
                clear hpm hst hq
                go_wp2
                go_region_with (first | (go_at_call 20; refine (mul_any _ _ _ (by omega) (by omega) (by omega) (by omega)).mono ?_; rintro e w' ⟨rfl, rfl⟩) | (go_at_call 21; refine (add_any _ _ _ (by omega) (by omega) (by omega) (by omega)).mono ?_; rintro e w' ⟨rfl, rfl⟩))
                all_goals
                  go_wp2
                  go_roundw
                  case rel => exact ⟨p, by have := HP.out; omega, by have := HP.out; go_num, _, hst2, hq2⟩
                  case measure => have := HP.out; simp [intOf]; omega
              · obtain rfl : m = 0 := by omega
                have hst2 := hst.q_congr (fun x hx => hq x (Nat.zero_le _) hx)
                clear hst hq hm0 hm
                go_wp2
                go_loopw [12, 13] (fun v j wr => ∃ m : Nat, m ≤ n ∧ j = .int .i64 ((m : Int) - 1) ∧ v = .int .u32 (Plain.atF n k m) ∧ St w wr g gc gq n (Plain.cF n y k) (Plain.qF n k)) (fun _ j _ => (intOf j + 1).toNat)
                case atStart => exact ⟨n, Nat.le_refl _, rfl, by rw [Plain.atF_top], hst2⟩
                case round =>
                  clear hst2
                  obtain ⟨m, hm, rfl, rfl, hst⟩ := hrel
                  by_cases hm0 : 0 < m
                  · obtain ⟨p, rfl⟩ : ∃ p, m = p + 1 := ⟨m - 1, by omega⟩
                    rw [show ((p + 1 : Nat) : Int) - 1 = (p : Int) from by omega]
                    have c1 := hst.q.cell p (by omega)
                    have a0 := Plain.atF_lo n k (p + 1)
                    have a1 := Plain.atF_hi n k (p + 1)
                    have b0 := Plain.qF_lo n k p
                    have b1 := Plain.qF_hi n k p
                    have d0 := Plain.mulF_lo (Plain.atF n k (p + 1)) k
                    have d1 := Plain.mulF_hi (Plain.atF n k (p + 1)) k
                    have hst2 := hst.drew
                    have x1 : (p : Int) < (n : Int) := by omega
                    have x4 : IntKind.u32.wrap (k : Int) = (k : Int) := u32_small (by omega)
                    have HS : Hid (Plain.addF (Plain.mulF (Plain.atF n k (p + 1)) k) (Plain.qF n k p) = Plain.atF n k p) := Plain.atF_step n k p (by omega)
                    clear hst
                    go_wp2
                    go_region_with (first | (go_at_call 20; refine (mul_any _ _ _ (by omega) (by omega) (by omega) (by omega)).mono ?_; rintro e w' ⟨rfl, rfl⟩) | (go_at_call 21; refine (add_any _ _ _ (by omega) (by omega) (by omega) (by omega)).mono ?_; rintro e w' ⟨rfl, rfl⟩))
                    all_goals
                      go_wp2
                      refine ⟨⟨_, _, _, _, _, _, _, _, _, _, _, _, _, _, _, ?_, rfl⟩, ?_⟩
                      · exact ⟨p, by omega, by go_num, by rw [HS.out], hst2⟩
                      · simp [intOf]
                  · obtain rfl : m = 0 := by omega
                    have a0 := Plain.atF_lo n k 0
                    have a1 := Plain.atF_hi n k 0
                    have b0 := Plain.inv_lo (Plain.atF n k 0)
                    have b1 := Plain.inv_hi (Plain.atF n k 0)
                    have hst2 := hst.c_congr (fun x _ => (cmid_zero n y k x).symm)
                    clear hst hm hm0
                    go_wp2_with (first | (go_at_call 22; refine (inv_any _ _ (by omega) (by omega)).mono ?_; rintro e w' ⟨rfl, rfl⟩) | (go_at_call 20; refine (mul_any _ _ _ (by omega) (by omega) (by omega) (by omega)).mono ?_; rintro e w' ⟨rfl, rfl⟩))
                    go_loopw [123] (fun i wr => ∃ m : Nat, m ≤ n ∧ i = .int .i64 m ∧ St w wr g gc gq n (cmid n y k m) (Plain.qF n k)) (fun i _ => n - (intOf i).toNat)
                    case atStart => exact ⟨0, Nat.zero_le _, rfl, hst2⟩
                    case round =>
                      clear hst2
                      obtain ⟨m, hm, rfl, hst⟩ := hrel
                      by_cases hm0 : m < n
                      · have c1 := hst.c.cell m (by omega)
                        rw [cmid_at] at c1
                        have f1 := hst.c.frozen m (by omega)
                        have c2 := hst.q.cell m (by omega)
                        have p0 := Plain.cF_lo n y k m
                        have p1 := Plain.cF_hi n y k m
                        have q0 := Plain.qF_lo n k m
                        have q1 := Plain.qF_hi n k m
                        have s0 := Plain.mulF_lo (y k) (Plain.inv (Plain.atF n k 0))
                        have s1 := Plain.mulF_hi (y k) (Plain.inv (Plain.atF n k 0))
                        have d0 := Plain.mulF_lo (Plain.mulF (y k) (Plain.inv (Plain.atF n k 0))) (Plain.qF n k m)
                        have d1 := Plain.mulF_hi (Plain.mulF (y k) (Plain.inv (Plain.atF n k 0))) (Plain.qF n k m)
                        have hst2 : St w (wr.setCell ⟨gc, m, none⟩ (.int .u32 (Plain.addF (Plain.cF n y k m) (Plain.mulF (Plain.mulF (y k) (Plain.inv (Plain.atF n k 0))) (Plain.qF n k m))))).drew g gc gq n (cmid n y k (m + 1)) (Plain.qF n k) :=
                          ((hst.store_c l1 l2 hg m hm0 _).c_congr (fun x _ => cmid_step hy0 x)).drew
                        have x1 : (m : Int) < (n : Int) := by omega
                        clear hst
                        go_wp2
                        go_region_with (first | (go_at_call 20; refine (mul_any _ _ _ (by omega) (by omega) (by omega) (by omega)).mono ?_; rintro e w' ⟨rfl, rfl⟩) | (go_at_call 21; refine (add_any _ _ _ (by omega) (by omega) (by omega) (by omega)).mono ?_; rintro e w' ⟨rfl, rfl⟩))
                        all_goals
                          go_wp2
                          go_roundw
                          case rel => exact ⟨m + 1, by omega, by go_num, hst2⟩
                          case measure => simp [intOf]; omega
                      · obtain rfl : n = m := by omega
                        have hst2 := hst.c_congr (fun x hx => cmid_full y k hx)
                        clear hst
                        go_wp2
                        go_roundw
                        case rel => exact ⟨k + 1, by omega, by go_num, _, hst2⟩
                        case measure => simp [intOf]; omega
        · obtain rfl : n = k := by omega
          go_wp2
          go_ret
          exact ⟨gc, rfl, by omega, hst.c, hst.bel⟩
end Go.Proofs.Qxb6602422a
