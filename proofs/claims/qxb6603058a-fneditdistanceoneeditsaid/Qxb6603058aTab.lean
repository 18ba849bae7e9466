import Derived.Test.Qxb6603058aDist
import Derived.WalkKit
import Derived.Below
import Derived.Deep.OwnRows
import Derived.Deep.QuietTactic
namespace Go.Proofs.Qxb6603058a
open Go.RowKit

theorem below_drewN {B n : Nat} {a w : World} (h : Below B a w) : Below B a (w.drewN n) := ⟨h.os, h.tape, h.output, h.size, h.block⟩
theorem rowIs_drewN {w : World} {b : Nat} {t : TypeId} {n k : Nat} {f : Nat → Value} (h : w.rowIs b t n f) : (w.drewN k).rowIs b t n f := h

/-- The table's own block: 'c' of its rows are made. -/
def top (B m c : Nat) : Nat → Value := fun r => if r < c then .slice (some ⟨B + 1 + r, 0, none⟩) m m else .slice none 0 0

/-- WHAT HOLDS AT THE FIRST LOOP's HEAD: c rows are made, each bears its number in front. -/
structure Made (w wr : World) (n m c : Nat) : Prop where
  below : Below w.heap.size w wr
  size : wr.heap.size = w.heap.size + 1 + c
  top : wr.rowIs w.heap.size 30 n (top w.heap.size m c)
  row : ∀ r, r < c → wr.rowIs (w.heap.size + 1 + r) 3 m (fun j => .int .i64 ((if j = 0 then r else 0 : Nat) : Int))

theorem made_start (w : World) (n m : Nat) : Made w (w.alloc (.cells (madeCells #[.slice none 0 0] n) 30)) n m 0 :=
  ⟨(Below.refl _ _).alloc (Nat.le_refl _) _, by simp, (World.rowIs_made w _ n 30).congr (fun j _ => by simp [Qxb6603058a.top]), fun j hj => absurd hj (Nat.not_lt_zero _)⟩

theorem made_step {w wr : World} {n m c : Nat} (h : Made w wr n m c) :
    Made w (((wr.alloc (.cells (madeCells #[.int .i64 0] m) 3)).setCell ⟨w.heap.size, c, none⟩ (.slice (some ⟨w.heap.size + 1 + c, 0, none⟩) m m)).setCell ⟨w.heap.size + 1 + c, 0, none⟩ (.int .i64 (c : Int))) n m (c + 1) := by
  have hnew := World.rowIs_made wr (.int .i64 0) m 3
  rw [h.size] at hnew
  refine ⟨((h.below.alloc (by rw [h.size]; omega) _).setCell (Nat.le_refl _) _).setCell (by show w.heap.size ≤ w.heap.size + 1 + c; omega) _, by simp [h.size]; omega,
    (((h.top.alloc _).set c _).setOther (by show w.heap.size ≠ w.heap.size + 1 + c; omega) _).congr (fun j _ => ?_), fun r hr => ?_⟩
  · unfold Qxb6603058a.top
    by_cases e : j = c
    · subst e; simp
    · rw [if_neg e]
      by_cases hlt : j < c
      · rw [if_pos hlt, if_pos (by omega)]
      · rw [if_neg hlt, if_neg (by omega)]
  · by_cases e : r = c
    · subst e
      exact ((hnew.setOther (by show w.heap.size + 1 + r ≠ w.heap.size; omega) _).set 0 _).congr (fun j _ => by by_cases e : j = 0 <;> simp [e])
    · exact (((h.row r (by omega)).alloc _).setOther (by show w.heap.size + 1 + r ≠ w.heap.size; omega) _).setOther (by show w.heap.size + 1 + r ≠ w.heap.size + 1 + c; omega) _

/-- WHAT HOLDS BEHIND IT: all n rows of m cells are there; row r's cell j holds 'F r j'. -/
structure Tab (w wr : World) (n m : Nat) (F : Nat → Nat → Nat) : Prop where
  below : Below w.heap.size w wr
  top : ∀ r, r < n → wr.cell? ⟨w.heap.size, r, none⟩ = some (.slice (some ⟨w.heap.size + 1 + r, 0, none⟩) m m)
  row : ∀ r, r < n → wr.rowIs (w.heap.size + 1 + r) 3 m (fun j => .int .i64 (F r j : Int))

theorem tab_of {w wr : World} {n m : Nat} (h : Made w wr n m n) : Tab w wr n m (fun r j => if j = 0 then r else 0) :=
  ⟨h.below, fun r hr => by rw [h.top.cell hr]; simp [Qxb6603058a.top, hr], fun r hr => h.row r hr⟩

theorem Tab.congr {w wr : World} {n m : Nat} {F G : Nat → Nat → Nat} (h : Tab w wr n m F) (e : ∀ r j, r < n → j < m → F r j = G r j) : Tab w wr n m G :=
  ⟨h.below, h.top, fun r hr => (h.row r hr).congr fun j hj => by rw [e r j hr hj]⟩
theorem Tab.drew {w wr : World} {n m : Nat} {F : Nat → Nat → Nat} (h : Tab w wr n m F) : Tab w wr.drew n m F := ⟨h.below.drew, h.top, h.row⟩
theorem Tab.drewN {w wr : World} {n m k : Nat} {F : Nat → Nat → Nat} (h : Tab w wr n m F) : Tab w (wr.drewN k) n m F := ⟨below_drewN h.below, h.top, h.row⟩
theorem Tab.cell {w wr : World} {n m : Nat} {F : Nat → Nat → Nat} (h : Tab w wr n m F) {r j : Nat} (hr : r < n) (hj : j < m) : wr.cell? ⟨w.heap.size + 1 + r, j, none⟩ = some (.int .i64 (F r j : Int)) := (h.row r hr).cell hj
theorem Tab.frozen {w wr : World} {n m : Nat} {F : Nat → Nat → Nat} (h : Tab w wr n m F) {r : Nat} (hr : r < n) (j : Nat) : wr.frozen? ⟨w.heap.size + 1 + r, j, none⟩ = false := (h.row r hr).frozen j
/-- A store into the table. -/
theorem Tab.set {w wr : World} {n m : Nat} {F : Nat → Nat → Nat} (h : Tab w wr n m F) (p q v : Nat) :
    Tab w (wr.setCell ⟨w.heap.size + 1 + p, q, none⟩ (.int .i64 (v : Int))) n m (fun r j => if r = p ∧ j = q then v else F r j) :=
  ⟨h.below.setCell (by show w.heap.size ≤ w.heap.size + 1 + p; omega) _,
   fun r hr => by
    have e := Below.heap_setCell wr ⟨w.heap.size + 1 + p, q, none⟩ (.int .i64 (v : Int)) w.heap.size (by show w.heap.size ≠ w.heap.size + 1 + p; omega)
    rw [← h.top r hr]; exact World.cell?_of_block (w := wr) e,
   fun r hr => by
    by_cases e : r = p
    · subst e
      exact ((h.row r hr).set q _).congr fun j _ => by by_cases f : j = q <;> simp [f]
    · exact ((h.row r hr).setOther (by show w.heap.size + 1 + r ≠ w.heap.size + 1 + p; omega) _).congr fun j _ => by simp [e]⟩

/-! ### the table's content at the loops' heads -/
/-- The first row is laid up to column q. -/
def F1 (q : Nat) : Nat → Nat → Nat := fun r j => if r = 0 then (if j < q then j else 0) else if j = 0 then r else 0
/-- Rows below p are done, row p up to column q. -/
def F2 (A B : Nat → Nat) (p q : Nat) : Nat → Nat → Nat := fun r j => if r = 0 ∨ j = 0 ∨ r < p ∨ (r = p ∧ j < q) then D A B r j else 0

theorem F1_start {w wr : World} {n m : Nat} (h : Tab w wr n m (fun r j => if j = 0 then r else 0)) : Tab w wr n m (F1 0) :=
  h.congr fun r j _ _ => by unfold F1; by_cases e : r = 0 <;> simp [e]
theorem F1_step {w wr : World} {n m q : Nat} (h : Tab w wr n m (F1 q)) : Tab w (wr.setCell ⟨w.heap.size + 1, q, none⟩ (.int .i64 (q : Int))) n m (F1 (q + 1)) :=
  (h.set 0 q q).congr fun r j _ _ => by
    unfold F1
    by_cases e : r = 0
    · by_cases f : j = q
      · simp [e, f]
      · by_cases g : j < q
        · simp [e, f, g, Nat.lt_succ_of_lt g]
        · have : ¬ j < q + 1 := by omega
          simp [e, f, g, this]
    · simp [e]
theorem F1_done {A B : Nat → Nat} {w wr : World} {n m : Nat} (h : Tab w wr n m (F1 m)) : Tab w wr n m (F2 A B 1 1) :=
  h.congr fun r j _ hj => by
    unfold F1 F2
    by_cases e : r = 0
    · subst e; simp [hj, D_zero]
    · by_cases f : j = 0
      · subst f; simp [e, D_col]
      · simp [e, f]
/-- The plain entry is stored. -/
def F3 (A B : Nat → Nat) (p q : Nat) : Nat → Nat → Nat := fun r j => if r = p + 1 ∧ j = q + 1 then M A B p q else F2 A B (p + 1) (q + 1) r j
theorem F3_plain {A B : Nat → Nat} {w wr : World} {n m p q : Nat} (h : Tab w wr n m (F3 A B p q)) (e : D A B (p + 1) (q + 1) = M A B p q) : Tab w wr n m (F2 A B (p + 1) (q + 2)) :=
  h.congr fun r j _ _ => by
    unfold F3 F2
    by_cases a : r = p + 1 ∧ j = q + 1
    · rw [if_pos a, a.1, a.2, if_pos (by omega), e]
    · rw [if_neg a]
      by_cases b : r = 0 ∨ j = 0 ∨ r < p + 1 ∨ (r = p + 1 ∧ j < q + 1)
      · rw [if_pos b, if_pos (by omega)]
      · rw [if_neg b, if_neg (by omega)]
theorem F3_swap {A B : Nat → Nat} {w wr : World} {n m p q : Nat} (h : Tab w wr n m (F3 A B p q)) : Tab w (wr.setCell ⟨w.heap.size + 1 + (p + 1), q + 1, none⟩ (.int .i64 (D A B (p + 1) (q + 1) : Int))) n m (F2 A B (p + 1) (q + 2)) :=
  (h.set (p + 1) (q + 1) (D A B (p + 1) (q + 1))).congr fun r j _ _ => by
    unfold F3 F2
    by_cases a : r = p + 1 ∧ j = q + 1
    · rw [if_pos a, a.1, a.2, if_pos (by omega)]
    · rw [if_neg a, if_neg a]
      by_cases b : r = 0 ∨ j = 0 ∨ r < p + 1 ∨ (r = p + 1 ∧ j < q + 1)
      · rw [if_pos b, if_pos (by omega)]
      · rw [if_neg b, if_neg (by omega)]
theorem F2_M {A B : Nat → Nat} {w wr : World} {n m p q : Nat} (h : Tab w wr n m (F2 A B (p + 1) (q + 1))) : Tab w (wr.setCell ⟨w.heap.size + 1 + (p + 1), q + 1, none⟩ (.int .i64 (M A B p q : Int))) n m (F3 A B p q) :=
  (h.set (p + 1) (q + 1) (M A B p q)).congr fun _ _ _ _ => rfl
theorem F2_row {A B : Nat → Nat} {w wr : World} {n m p : Nat} (h : Tab w wr n m (F2 A B p m)) : Tab w wr n m (F2 A B (p + 1) 1) :=
  h.congr fun r j _ hj => by
    unfold F2
    by_cases b : r = 0 ∨ j = 0 ∨ r < p ∨ (r = p ∧ j < m)
    · rw [if_pos b, if_pos (by omega)]
    · rw [if_neg b, if_neg (by omega)]
theorem F2_D (A B : Nat → Nat) {p q r j : Nat} (h : r = 0 ∨ j = 0 ∨ r < p ∨ (r = p ∧ j < q)) : F2 A B p q r j = D A B r j := by
  unfold F2; rw [if_pos h]

end Go.Proofs.Qxb6603058a
