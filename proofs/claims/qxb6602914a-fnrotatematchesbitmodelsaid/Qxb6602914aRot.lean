import Derived.Test.Qxb6602914aRows
import Derived.Test.Qxb6602914aBits
import Derived.WalkKit
import Derived.Below
import Derived.Deep.QuietTactic
import Derived.BigQuiet
namespace Go.Proofs.Qxb6602914a
open Go.RowKit

/-- What the walk shows of 'x<<r | y>>(64-r)'. -/
theorem or_form (h l r : Nat) (hl : l < 18446744073709551616) :
    bits .or .u64 (IntKind.u64.wrap ((h : Int) * 2 ^ r)) ((l : Int) / 2 ^ (64 - r)) = ((rot1 h l r : Nat) : Int) := by
  rw [IntKind.wrap_u64]
  have e1 : ((h : Int) * 2 ^ r) % 18446744073709551616 = ((h * 2 ^ r % 18446744073709551616 : Nat) : Int) := by simp
  have e2 : ((l : Int) / 2 ^ (64 - r)) = ((l / 2 ^ (64 - r) : Nat) : Int) := by simp
  rw [e1, e2, u64_or_nat _ _ (Nat.mod_lt _ (by decide)) (Nat.lt_of_le_of_lt (Nat.div_le_self _ _) hl)]
  rfl

theorem below_drewN {B n : Nat} {a w : World} (h : Below B a w) : Below B a (w.drewN n) := ⟨h.os, h.tape, h.output, h.size, h.block⟩

set_option maxHeartbeats 1000000 in
theorem rotate_lo (h l r : Nat) (w : World) (_hh : h < 18446744073709551616) (hl : l < 18446744073709551616) (hr : r < 64) :
    Calls Try.prog 7 #[.agg #[.int .u64 h, .int .u64 l], .int .i64 r] w fun e w' => e = .returned (.agg #[.int .u64 (rotH h l r), .int .u64 (rotL h l r)]) ∧ Below w.heap.size w w' := by
  have E1 := or_form h l r hl
  have E2 := or_form l h r _hh
  have H1 : Hid (rotH h l r = rot1 h l r) := by unfold Hid rotH; rw [if_neg (by omega)]
  have H2 : Hid (rotL h l r = rot1 l h r) := by unfold Hid rotL; rw [if_neg (by omega)]
  go_enter Try.func7, Try.ntmps7
  go_wp2
  go_quiet (fail)
  go_wp2
  go_region
  go_wp2
  rw [H1.out, H2.out]
  exact bodyPost_ret (v := .agg #[.int .u64 (rot1 h l r), .int .u64 (rot1 l h r)]) (by simp [results, Try.results7, go_sem]) rfl ⟨rfl, ((below_drewN (((Below.refl _ _).alloc (Nat.le_refl _) _).alloc (by simp) _)).setCell (by simp) _).setCell (by simp) _⟩

set_option maxHeartbeats 1000000 in
theorem rotate_hi (h l r : Nat) (w : World) (_hh : h < 18446744073709551616) (hl : l < 18446744073709551616) (hr : 64 ≤ r) (hr2 : r < 128) :
    Calls Try.prog 7 #[.agg #[.int .u64 h, .int .u64 l], .int .i64 r] w fun e w' => e = .returned (.agg #[.int .u64 (rotH h l r), .int .u64 (rotL h l r)]) ∧ Below w.heap.size w w' := by
  have E1 := or_form l h (r - 64) _hh
  have E2 := or_form h l (r - 64) hl
  have H1 : Hid (rotH h l r = rot1 l h (r - 64)) := by unfold Hid rotH; rw [if_pos (by omega)]
  have H2 : Hid (rotL h l r = rot1 h l (r - 64)) := by unfold Hid rotL; rw [if_pos (by omega)]
  go_enter Try.func7, Try.ntmps7
  go_wp2
  go_quiet (fail)
  go_wp2
  go_region
  go_wp2
  rw [H1.out, H2.out]
  exact bodyPost_ret (v := .agg #[.int .u64 (rot1 l h (r - 64)), .int .u64 (rot1 h l (r - 64))]) (by simp [results, Try.results7, go_sem]) rfl ⟨rfl, ((below_drewN (((Below.refl _ _).alloc (Nat.le_refl _) _).alloc (by simp) _)).setCell (by simp) _).setCell (by simp) _⟩

theorem rotate_any (h l r : Nat) (w : World) (hh : h < 18446744073709551616) (hl : l < 18446744073709551616) (hr : r < 128) :
    Calls Try.prog 7 #[.agg #[.int .u64 h, .int .u64 l], .int .i64 r] w fun e w' => e = .returned (.agg #[.int .u64 (rotH h l r), .int .u64 (rotL h l r)]) ∧ Below w.heap.size w w' := by
  by_cases c : r < 64
  · exact rotate_lo h l r w hh hl c
  · exact rotate_hi h l r w hh hl (by omega) hr

set_option maxHeartbeats 1000000 in
theorem zz_any (h l r : Nat) (w : World) (hh : h < 18446744073709551616) (hl : l < 18446744073709551616) (hr : r < 128) :
    Calls Try.prog 5 #[.int .u64 h, .int .u64 l, .int .i64 r] w fun e w' => e = .returned (.tuple #[.int .u64 (rotH h l r), .int .u64 (rotL h l r)]) ∧ Below w.heap.size w w' := by
  go_enter Try.func5, Try.ntmps5
  go_wp2_with fail
  refine (rotate_any h l r _ hh hl hr).mono ?_
  rintro e w1 ⟨rfl, hb⟩
  go_wp2
  go_quiet (fail)
  go_wp2
  go_ret2
  exact ⟨rfl, below_drewN (hb.alloc hb.size _)⟩

theorem and1 (x k : Nat) (hx : x < 18446744073709551616) : bits .and .u64 ((x : Int) / 2 ^ k) 1 = ((x / 2 ^ k % 2 : Nat) : Int) := by
  have h := u64_and_nat (x / 2 ^ k) 1 (Nat.lt_of_le_of_lt (Nat.div_le_self _ _) hx) (by decide)
  rw [nat_mask1] at h
  have e2 : ((x : Int) / 2 ^ k) = ((x / 2 ^ k : Nat) : Int) := by simp
  rw [e2]
  exact h
theorem ret_int {k : IntKind} {a b : Int} (h : a = b) : Ending.returned (.int k a) = .returned (.int k b) := by rw [h]

set_option maxHeartbeats 1000000 in
theorem bitAt_any (h l i : Nat) (w : World) (hh : h < 18446744073709551616) (hl : l < 18446744073709551616) (hi : i < 128) :
    Calls Try.prog 6 #[.int .u64 h, .int .u64 l, .int .i64 i] w fun e w' => e = .returned (.int .u64 ((bt h l i).toNat : Nat)) ∧ w' = w := by
  rw [bt_num]
  by_cases c : 64 ≤ i
  · rw [if_pos c]
    go_enter Try.func6, Try.ntmps6
    go_wp2
    go_ret
    exact ⟨ret_int (and1 _ _ hh), rfl⟩
  · rw [if_neg c]
    have c' : i < 64 := by omega
    go_enter Try.func6, Try.ntmps6
    go_wp2
    go_ret
    exact ⟨ret_int (and1 _ _ hl), rfl⟩

end Go.Proofs.Qxb6602914a
