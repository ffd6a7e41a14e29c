/-
  ROWS OF 32-BIT NUMBERS IN MEMORY: 'Row w g n f': block g holds, from its head on, n numbers f 0, f 1, .. that may be written. No walk here.
-/
import Derived.Test.Qxb6602422aRows
import Derived.WalkKit
import Derived.ProofKit
import Derived.Below
import Derived.Deep.QuietTactic
import Derived.BigQuiet
import Derived.Deep.RegionHeld3
namespace Go.Proofs.Qxb6602422a
open Go.ChangeShapes Go.WideShapes Go.ChangeAt Go.RowKit

def Row (w : World) (g n : Nat) (f : Nat → Int) : Prop :=
  g < w.heap.size ∧ ∀ j, j < n → w.cell? ⟨g, j, none⟩ = some (.int .u32 (f j)) ∧ w.frozen? ⟨g, j, none⟩ = false

theorem Row.lt {w : World} {g n : Nat} {f : Nat → Int} (h : Row w g n f) : g < w.heap.size := h.1
theorem Row.cell {w : World} {g n : Nat} {f : Nat → Int} (h : Row w g n f) (j : Nat) (hj : j < n) : w.cell? ⟨g, j, none⟩ = some (.int .u32 (f j)) := (h.2 j hj).1
theorem Row.frozen {w : World} {g n : Nat} {f : Nat → Int} (h : Row w g n f) (j : Nat) (hj : j < n) : w.frozen? ⟨g, j, none⟩ = false := (h.2 j hj).2
theorem Row.congr {w : World} {g n : Nat} {f f' : Nat → Int} (h : Row w g n f) (e : ∀ j, j < n → f j = f' j) : Row w g n f' :=
  ⟨h.1, fun j hj => by rw [← e j hj]; exact h.2 j hj⟩
theorem Row.drew {w : World} {g n : Nat} {f : Nat → Int} (h : Row w g n f) : Row w.drew g n f := h
theorem Row.drewN {w : World} {g n : Nat} {f : Nat → Int} (h : Row w g n f) (k : Nat) : Row (w.drewN k) g n f := by
  induction k generalizing w with
  | zero => exact h
  | succ k ih => exact ih h.drew
theorem Row.below {B : Nat} {w w' : World} {g n : Nat} {f : Nat → Int} (h : Row w g n f) (hb : Below B w w') (hg : g < B) : Row w' g n f :=
  ⟨Nat.lt_of_lt_of_le h.1 hb.size, fun j hj => by rw [hb.cell (p := ⟨g, j, none⟩) hg, hb.frozen (p := ⟨g, j, none⟩) hg]; exact h.2 j hj⟩
/-- A store into the row itself. -/
theorem Row.store {w : World} {g n : Nat} {f : Nat → Int} (h : Row w g n f) (i : Nat) (hi : i < n) (v : Int) : Row (w.setCell ⟨g, i, none⟩ (.int .u32 v)) g n (fun j => if j = i then v else f j) := by
  refine ⟨by simpa [World.setCell] using h.1, fun j hj => ⟨?_, by rw [World.frozen?_setCell]; exact h.frozen j hj⟩⟩
  show _ = some (Value.int .u32 (if j = i then v else f j))
  by_cases e : j = i
  · subst e
    rw [if_pos rfl]
    exact World.cell?_setCell_same _ _ _ (h.cell j hj)
  · rw [if_neg e, World.cell?_setCell_other _ _ _ _ (by intro h2; cases h2; exact e rfl)]
    exact h.cell j hj
/-- A store into another block. -/
theorem Row.other {w : World} {g n : Nat} {f : Nat → Int} (h : Row w g n f) {p : Addr} (hp : p.block ≠ g) (v : Value) : Row (w.setCell p v) g n f := by
  refine ⟨by simpa [World.setCell] using h.1, fun j hj => ⟨?_, by rw [World.frozen?_setCell]; exact h.frozen j hj⟩⟩
  rw [World.cell?_setCell_other _ _ _ _ (by intro e; rw [e] at hp; exact hp rfl)]
  exact h.cell j hj
/-- A row in a new block. -/
theorem Row.of_owns {w : World} {g n : Nat} {base e : Nat} (h : w.ownsRow base e 1 (.slice (some ⟨g, 0, none⟩) n n) n (madeCells (Value.int .u32 0).cells (n * 1)).toList) : Row w g n (fun _ => 0) := by
  refine ⟨(h.lt g rfl).2, fun j hj => ⟨?_, h.frozenAt j⟩⟩
  rw [h.cellAt j (by omega)]
  have : (madeCells (Value.int .u32 0).cells (n * 1)).toList = List.replicate (n * 1) (.int .u32 0) := toList_madeCells_one _ _
  rw [this]
  simp [hj]

/-- 'make([]uint32, n)' | 'make([]Elem, n)': a row of noughts in a new block. -/
theorem wpList_make_row {P : Program} (w : World) {ops : Array Oper} {rest : List Oper} {o : Oper} {a : Act} {Q : Exit → Act → World → Prop}
    (hg : o.guard = none) (l : Operand) (t : TypeId) (hop : o.op = Op.makeSlice t l l)
    (e : TypeId) (i : TypeInfo) (h1 : P.underlying t = some (.slice e)) (h2 : P.info? e = some i) (h3 : i.zero = some (.int .u32 0)) (h4 : i.size = 1) (h5 : i.bytes = 4)
    (k : IntKind) (L : Int) (n : Nat) (hl : a.eval l = .int k L) (hL : L = (n : Int)) (hn : n ≤ 5000)
    (hK : ∀ g w', w.heap.size ≤ g → Row w' g n (fun _ => 0) → Below w.heap.size w w' → wpList P ops Q rest (a.put o.dst (.slice (some ⟨g, 0, none⟩) n n)) w') :
    wpList P ops Q (o :: rest) a w := by
  refine wpList_make_full w hg l l t hop w.heap.size e i (.int .u32 0) 1 h1 h2 h3 h4 k k L L n hl hl hL hL (by rw [h5]; omega) (by unfold maxLen; omega) (Nat.le_refl _) ?_
  intro w' hown hgr
  exact hK w.heap.size w' (Nat.le_refl _) (Row.of_owns hown) ((Below.refl _ _).grown hgr (Nat.le_refl _) (fun k hk => by cases hk))

theorem Try.info28 : (Try.prog.info? 28).map (fun i => (i.zero, i.size, i.bytes)) = some (some (.int .u32 0), 1, 4) := by kernel_rfl
theorem Try.info29 : (Try.prog.info? 29).map (fun i => (i.zero, i.size, i.bytes)) = some (some (.int .u32 0), 1, 4) := by kernel_rfl
end Go.Proofs.Qxb6602422a
