import Derived.Test.Qxb6603891aRows
import Derived.WalkKit
import Derived.WalkSpells
import Derived.Below
import Derived.Deep.OwnRows
import Derived.Deep.QuietTactic
import Derived.BigQuiet
namespace Go.Proofs.Qxb6603891a
open Go.RowKit

theorem below_drewN {B n : Nat} {a w : World} (h : Below B a w) : Below B a (w.drewN n) := ⟨h.os, h.tape, h.output, h.size, h.block⟩
theorem Try.info2 : (Try.prog.info? 2).map (fun i => (i.zero, i.size, i.bytes)) = some (some (.int .i64 0), 1, 8) := by kernel_rfl
theorem ret_int {k : IntKind} {a b : Int} (h : a = b) : Ending.returned (.int k a) = .returned (.int k b) := by rw [h]

/-! ### cloneEndsB1 -/
theorem clone_nil (w : World) : Calls Try.prog 7 #[.slice none 0 0] w fun e w' => e = .returned (.slice none 0 0) ∧ w' = w := by
  have hnil := fun (w : World) => Lib.run_eql_slice_nil (P := Try.prog) w 22 2 none 0 0 0 0 Try.underlying22
  go_enter Try.func7, Try.ntmps7
  go_wp2
  go_ret
  exact ⟨rfl, rfl⟩

theorem row_zero (w : World) (n : Nat) (Z : Nat → Int) : (w.alloc (.cells (madeCells #[.int .i64 0] n) 2)).rowIs w.heap.size 2 n (fun i => .int .i64 (if i < 0 then Z i else 0)) :=
  (World.rowIs_made w _ n 2).congr fun i _ => by simp
theorem row_step {w : World} {b n k : Nat} {Z : Nat → Int} (h : w.rowIs b 2 n (fun i => .int .i64 (if i < k then Z i else 0))) : (w.setCell ⟨b, k, none⟩ (.int .i64 (Z k))).rowIs b 2 n (fun i => .int .i64 (if i < k + 1 then Z i else 0)) :=
  (h.set k _).congr fun i _ => by
    by_cases e : i = k
    · subst e; simp
    · rw [if_neg e]
      by_cases c : i < k
      · rw [if_pos c, if_pos (by omega)]
      · rw [if_neg c, if_neg (by omega)]
theorem row_done {w : World} {b n : Nat} {Z : Nat → Int} (h : w.rowIs b 2 n (fun i => .int .i64 (if i < n then Z i else 0))) : w.rowIs b 2 n (fun i => .int .i64 (Z i)) :=
  h.congr fun i hi => by rw [if_pos hi]

set_option maxRecDepth 100000 in
theorem clone_some (b off n c : Nat) (Z : Nat → Int) (w : World) (hn : n ≤ 131072) (hz : ∀ i, i < n → w.cell? ⟨b, off + i, none⟩ = some (.int .i64 (Z i))) :
    Calls Try.prog 7 #[.slice (some ⟨b, off, none⟩) n c] w fun e w' => e = .returned (.slice (some ⟨w.heap.size, 0, none⟩) n n) ∧ w'.rowIs w.heap.size 2 n (fun i => .int .i64 (Z i)) ∧ Below w.heap.size w w' ∧ w'.heap.size = w.heap.size + 1 := by
  have hnil := fun (w : World) => Lib.run_eql_slice_nil (P := Try.prog) w 22 2 (some ⟨b, off, none⟩) n c 0 0 Try.underlying22
  have hmk := run_make_row' (P := Try.prog) 22 2 (.int .i64 0) 8 Try.underlying22 Try.info2 rfl .i64 .i64 n (by omega) (by omega)
  have HZ : Hid (∀ i, i < n → w.cell? ⟨b, off + i, none⟩ = some (.int .i64 (Z i))) := hz
  clear hz
  go_enter Try.func7, Try.ntmps7
  go_wp2
  go_loopw [4] (fun i wr => ∃ k : Nat, k ≤ n ∧ i = .int .i64 k ∧ wr.rowIs w.heap.size 2 n (fun i => .int .i64 (if i < k then Z i else 0)) ∧ Below w.heap.size w wr ∧ wr.heap.size = w.heap.size + 1) (fun i _ => n - (intOf i).toNat)
  case atStart => exact ⟨0, Nat.zero_le _, rfl, row_zero w n Z, (Below.refl _ _).alloc (Nat.le_refl _) _, by simp⟩
  case round =>
    obtain ⟨k, hk, rfl, hr, hb, hs⟩ := hrel
    clear hmk hnil
    by_cases hlt : k < n
    · have g0 := HZ.out k hlt
      have hbl : b < w.heap.size := World.block_lt_of_cell? _ _ g0
      have g1 : wr.cell? ⟨b, off + k, none⟩ = some (.int .i64 (Z k)) := (hb.cell (p := ⟨b, off + k, none⟩) hbl).trans g0
      have g2 := hr.cell hlt
      have g3 := hr.frozen k
      clear g0
      go_wp2
      go_roundw
      case rel => exact ⟨k + 1, by omega, by go_num, row_step hr, hb.setCell (Nat.le_refl _) _, by simp [hs]⟩
      case measure => simp [intOf]; omega
    · obtain rfl : k = n := by omega
      go_wp2
      go_ret
      exact ⟨rfl, row_done hr, hb, hs⟩

theorem clone_empty (x : Addr) (c : Nat) (Z : Nat → Int) (w : World) :
    Calls Try.prog 7 #[.slice (some x) 0 c] w fun e w' => e = .returned (.slice (some ⟨w.heap.size, 0, none⟩) 0 0) ∧ w'.rowIs w.heap.size 2 0 (fun i => .int .i64 (Z i)) ∧ Below w.heap.size w w' ∧ w'.heap.size = w.heap.size + 1 := by
  have hnil := fun (w : World) => Lib.run_eql_slice_nil (P := Try.prog) w 22 2 (some x) 0 c 0 0 Try.underlying22
  have hmk := run_make_row' (P := Try.prog) 22 2 (.int .i64 0) 8 Try.underlying22 Try.info2 rfl .i64 .i64 0 (by omega) (by omega)
  rw [show ((0 : Nat) : Int) = 0 from rfl] at hmk
  go_enter Try.func7, Try.ntmps7
  go_wp2
  go_loopw [4] (fun i wr => i = .int .i64 0 ∧ wr.rowIs w.heap.size 2 0 (fun i => .int .i64 (Z i)) ∧ Below w.heap.size w wr ∧ wr.heap.size = w.heap.size + 1) (fun _ _ => 0)
  case atStart => exact ⟨rfl, (World.rowIs_made w _ 0 2).congr fun i hi => by omega, (Below.refl _ _).alloc (Nat.le_refl _) _, by simp⟩
  case round =>
    obtain ⟨rfl, hr, hb, hs⟩ := hrel
    go_wp2
    go_ret
    exact ⟨rfl, hr, hb, hs⟩

/-! ### ZZB1TreeWalk -/
/-- The new TreeWalk's block. -/
def tw (ao : Option Addr) (n c : Nat) : Obj := .cells #[.map none, .map none, .int .i64 0, .string ⟨#[]⟩, .slice ao n c] 34

theorem tree_any (ao : Option Addr) (n c : Nat) (w : World) : Calls Try.prog 8 #[.slice ao n c] w fun e w' => e = .returned (.pointer (some ⟨w.heap.size, 0, none⟩)) ∧ w.alloc (tw ao n c) = w' := by
  go_enter Try.func8, Try.ntmps8
  go_wp2
  go_ret
  exact ⟨rfl, rfl⟩
theorem tw_cell (ao : Option Addr) (n c : Nat) (w : World) : (w.alloc (tw ao n c)).cell? ⟨w.heap.size, 4, none⟩ = some (.slice ao n c) := by
  unfold tw; simp

/-! ### blockSize, size -/
/-- What blockSize computes. -/
def bs (Z : Nat → Int) : Nat → Int
  | 0 => Z 0
  | k + 1 => wrap64 (Z (k + 1) - Z k)

set_option maxRecDepth 100000 in
theorem block_zero (p be n c : Nat) (Z : Nat → Int) (w : World) (hn : 0 < n) (hp : w.cell? ⟨p, 4, none⟩ = some (.slice (some ⟨be, 0, none⟩) n c)) (h0 : w.cell? ⟨be, 0, none⟩ = some (.int .i64 (Z 0))) :
    Calls Try.prog 13 #[.pointer (some ⟨p, 0, none⟩), .int .i64 0] w fun e w' => e = .returned (.int .i64 (bs Z 0)) ∧ ∃ m, w' = w.drewN m := by
  have hi : (0 : Int) < (n : Int) := by omega
  go_enter Try.func13, Try.ntmps13
  go_wp2
  go_ret
  exact ⟨rfl, 0, rfl⟩

set_option maxRecDepth 100000 in
theorem block_succ (p be n c k : Nat) (Z : Nat → Int) (w : World) (hk : k + 1 < n) (hn : n ≤ 200000) (hp : w.cell? ⟨p, 4, none⟩ = some (.slice (some ⟨be, 0, none⟩) n c)) (h0 : w.cell? ⟨be, k, none⟩ = some (.int .i64 (Z k))) (h1 : w.cell? ⟨be, k + 1, none⟩ = some (.int .i64 (Z (k + 1)))) :
    Calls Try.prog 13 #[.pointer (some ⟨p, 0, none⟩), .int .i64 ((k : Int) + 1)] w fun e w' => e = .returned (.int .i64 (bs Z (k + 1))) ∧ ∃ m, w' = w.drewN m := by
  have ht : ((k : Int) + 1 == 0) = false := by simp; omega
  have hi : (k : Int) + 1 < (n : Int) := by omega
  have hi2 : (k : Int) < (n : Int) := by omega
  go_enter Try.func13, Try.ntmps13
  go_wp2
  go_quiet (fail)
  go_wp2
  go_ret
  exact ⟨ret_int rfl, nq, rfl⟩

set_option maxRecDepth 100000 in
theorem size_zero (p : Nat) (ao : Option Addr) (c : Nat) (w : World) (hp : w.cell? ⟨p, 4, none⟩ = some (.slice ao 0 c)) :
    Calls Try.prog 14 #[.pointer (some ⟨p, 0, none⟩)] w fun e w' => e = .returned (.int .i64 0) ∧ ∃ m, w' = w.drewN m := by
  go_enter Try.func14, Try.ntmps14
  go_wp2
  go_ret
  exact ⟨rfl, 0, rfl⟩
set_option maxRecDepth 100000 in
theorem size_succ (p be n c : Nat) (z : Int) (w : World) (hn : n ≤ 200000) (hp : w.cell? ⟨p, 4, none⟩ = some (.slice (some ⟨be, 0, none⟩) (n + 1) c)) (h0 : w.cell? ⟨be, n, none⟩ = some (.int .i64 z)) :
    Calls Try.prog 14 #[.pointer (some ⟨p, 0, none⟩)] w fun e w' => e = .returned (.int .i64 z) ∧ ∃ m, w' = w.drewN m := by
  have ht : ((n : Int) + 1 == 0) = false := by simp; omega
  have hi2 : (n : Int) < (n : Int) + 1 := by omega
  go_enter Try.func14, Try.ntmps14
  go_wp2
  go_quiet (fail)
  go_wp2
  go_ret
  exact ⟨rfl, nq, rfl⟩

end Go.Proofs.Qxb6603891a
