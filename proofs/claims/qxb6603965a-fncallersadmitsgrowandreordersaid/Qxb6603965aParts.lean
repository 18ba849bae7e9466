import Derived.Test.Qxb6603965aRows
import Derived.WalkKit
import Derived.WalkSpells
import Derived.Below
import Derived.Deep.OwnRows
import Derived.Deep.QuietTactic
import Derived.BigQuiet
namespace Go.Proofs.Qxb6603965a
open Go.RowKit

theorem below_drewN {B n : Nat} {a w : World} (h : Below B a w) : Below B a (w.drewN n) := ⟨h.os, h.tape, h.output, h.size, h.block⟩
theorem Try.info23 : (Try.prog.info? 23).map (fun i => (i.zero, i.size, i.bytes)) = some (some (.int .u32 0), 1, 4) := by kernel_rfl
theorem ret_int {k : IntKind} {a b : Int} (h : a = b) : Ending.returned (.int k a) = .returned (.int k b) := by rw [h]

/-! ### zzCopyIDs -/
theorem clone_nil (w : World) : Calls Try.prog 5 #[.slice none 0 0] w fun e w' => e = .returned (.slice none 0 0) ∧ w' = w := by
  have hnil := fun (w : World) => Lib.run_eql_slice_nil (P := Try.prog) w 22 23 none 0 0 0 0 Try.underlying22
  go_enter Try.func5, Try.ntmps5
  go_wp2
  go_ret
  exact ⟨rfl, rfl⟩

theorem row_zero (w : World) (n : Nat) (Z : Nat → Int) : (w.alloc (.cells (madeCells #[.int .u32 0] n) 23)).rowIs w.heap.size 23 n (fun i => .int .u32 (if i < 0 then Z i else 0)) :=
  (World.rowIs_made w _ n 23).congr fun i _ => by simp
theorem row_step {w : World} {b n k : Nat} {Z : Nat → Int} (h : w.rowIs b 23 n (fun i => .int .u32 (if i < k then Z i else 0))) : (w.setCell ⟨b, k, none⟩ (.int .u32 (Z k))).rowIs b 23 n (fun i => .int .u32 (if i < k + 1 then Z i else 0)) :=
  (h.set k _).congr fun i _ => by
    by_cases e : i = k
    · subst e; simp
    · rw [if_neg e]
      by_cases c : i < k
      · rw [if_pos c, if_pos (by omega)]
      · rw [if_neg c, if_neg (by omega)]
theorem row_done {w : World} {b n : Nat} {Z : Nat → Int} (h : w.rowIs b 23 n (fun i => .int .u32 (if i < n then Z i else 0))) : w.rowIs b 23 n (fun i => .int .u32 (Z i)) :=
  h.congr fun i hi => by rw [if_pos hi]

set_option maxRecDepth 100000 in
theorem clone_some (b off n c : Nat) (Z : Nat → Int) (w : World) (hn : n ≤ 131072) (hz : ∀ i, i < n → w.cell? ⟨b, off + i, none⟩ = some (.int .u32 (Z i))) :
    Calls Try.prog 5 #[.slice (some ⟨b, off, none⟩) n c] w fun e w' => e = .returned (.slice (some ⟨w.heap.size, 0, none⟩) n n) ∧ w'.rowIs w.heap.size 23 n (fun i => .int .u32 (Z i)) ∧ Below w.heap.size w w' ∧ w'.heap.size = w.heap.size + 1 := by
  have hnil := fun (w : World) => Lib.run_eql_slice_nil (P := Try.prog) w 22 23 (some ⟨b, off, none⟩) n c 0 0 Try.underlying22
  have hmk := run_make_row' (P := Try.prog) 22 23 (.int .u32 0) 4 Try.underlying22 Try.info23 rfl .i64 .i64 n (by omega) (by omega)
  have HZ : Hid (∀ i, i < n → w.cell? ⟨b, off + i, none⟩ = some (.int .u32 (Z i))) := hz
  clear hz
  go_enter Try.func5, Try.ntmps5
  go_wp2
  go_loopw [4] (fun i wr => ∃ k : Nat, k ≤ n ∧ i = .int .i64 k ∧ wr.rowIs w.heap.size 23 n (fun i => .int .u32 (if i < k then Z i else 0)) ∧ Below w.heap.size w wr ∧ wr.heap.size = w.heap.size + 1) (fun i _ => n - (intOf i).toNat)
  case atStart => exact ⟨0, Nat.zero_le _, rfl, row_zero w n Z, (Below.refl _ _).alloc (Nat.le_refl _) _, by simp⟩
  case round =>
    obtain ⟨k, hk, rfl, hr, hb, hs⟩ := hrel
    clear hmk hnil
    by_cases hlt : k < n
    · have g0 := HZ.out k hlt
      have hbl : b < w.heap.size := World.block_lt_of_cell? _ _ g0
      have g1 : wr.cell? ⟨b, off + k, none⟩ = some (.int .u32 (Z k)) := (hb.cell (p := ⟨b, off + k, none⟩) hbl).trans g0
      have g2 := hr.cell hlt
      have g3 := hr.frozen k
      clear g0
      go_wp2
      go_roundw
      case rel => exact ⟨k + 1, by omega, by go_num, row_step hr, hb.setCell (Nat.le_refl _) _, by simp [hs]⟩
      case measure => simp [intOf]; omega
    · obtain rfl : k = n := by omega
      go_wp2
      go_ret
      exact ⟨rfl, row_done hr, hb, hs⟩

theorem clone_empty (x : Addr) (c : Nat) (Z : Nat → Int) (w : World) :
    Calls Try.prog 5 #[.slice (some x) 0 c] w fun e w' => e = .returned (.slice (some ⟨w.heap.size, 0, none⟩) 0 0) ∧ w'.rowIs w.heap.size 23 0 (fun i => .int .u32 (Z i)) ∧ Below w.heap.size w w' ∧ w'.heap.size = w.heap.size + 1 := by
  have hnil := fun (w : World) => Lib.run_eql_slice_nil (P := Try.prog) w 22 23 (some x) 0 c 0 0 Try.underlying22
  have hmk := run_make_row' (P := Try.prog) 22 23 (.int .u32 0) 4 Try.underlying22 Try.info23 rfl .i64 .i64 0 (by omega) (by omega)
  rw [show ((0 : Nat) : Int) = 0 from rfl] at hmk
  go_enter Try.func5, Try.ntmps5
  go_wp2
  go_loopw [4] (fun i wr => i = .int .i64 0 ∧ wr.rowIs w.heap.size 23 0 (fun i => .int .u32 (Z i)) ∧ Below w.heap.size w wr ∧ wr.heap.size = w.heap.size + 1) (fun _ _ => 0)
  case atStart => exact ⟨rfl, (World.rowIs_made w _ 0 23).congr fun i hi => by omega, (Below.refl _ _).alloc (Nat.le_refl _) _, by simp⟩
  case round =>
    obtain ⟨rfl, hr, hb, hs⟩ := hrel
    go_wp2
    go_ret
    exact ⟨rfl, hr, hb, hs⟩

/-! ### reading -/
/-- WHAT THE WALK IS TOLD OF A SLICE OF INTEGERS THAT CAME IN: it is nil; or it leads to a row of 'cap' cells, the numbers 'zs'. -/
def IsRow (k : IntKind) (w : World) (a : Option Addr) (len cap : Nat) (zs : List Int) : Prop :=
  (a = none ∧ len = 0 ∧ cap = 0 ∧ zs = []) ∨
  ∃ x, a = some x ∧ len ≤ cap ∧ cap ≤ maxLen ∧ zs.length = cap ∧ (∀ i, i < zs.length → w.cell? (x.add i) = some (.int k (zs.getD i 0))) ∧ ∀ n ∈ zs, (Lit.int k n).wf = true
theorem IsRow.len {k : IntKind} {w : World} {a : Option Addr} {n c : Nat} {zs : List Int} (h : IsRow k w a n c zs) : n ≤ maxLen := by
  rcases h with ⟨_, rfl, _, _⟩ | ⟨_, _, h1, h2, _⟩
  · exact Nat.zero_le _
  · exact Nat.le_trans h1 h2
/-- Below a world's blocks nothing has turned: what came in reads as before. -/
theorem IsRow.below {k : IntKind} {w w' : World} {a : Option Addr} {n c : Nat} {zs : List Int} (h : IsRow k w a n c zs) (hb : Below w.heap.size w w') : IsRow k w' a n c zs := by
  rcases h with h | ⟨x, h0, h1, h2, h3, h4, h5⟩
  · exact .inl h
  · exact .inr ⟨x, h0, h1, h2, h3, fun i hi => (hb.cell (World.block_lt_of_cell? _ _ (h4 i hi))).trans (h4 i hi), h5⟩

/-- The slice at 'ao' reads as the numbers Z below n. -/
def Rd (w : World) (ao : Option Addr) (n : Nat) (Z : Nat → Int) : Prop :=
  ∀ i, i < n → ∃ be, ao = some ⟨be, 0, none⟩ ∧ w.cell? ⟨be, i, none⟩ = some (.int .u32 (Z i))
theorem Rd.below {w w' : World} {ao : Option Addr} {n : Nat} {Z : Nat → Int} (h : Rd w ao n Z) (hb : Below w.heap.size w w') : Rd w' ao n Z := fun i hi => by
  obtain ⟨be, e, hc⟩ := h i hi
  exact ⟨be, e, (hb.cell (p := ⟨be, i, none⟩) (World.block_lt_of_cell? _ _ hc)).trans hc⟩
theorem Rd.of_row {w : World} {b n : Nat} {Z : Nat → Int} (h : w.rowIs b 23 n (fun i => .int .u32 (Z i))) : Rd w (some ⟨b, 0, none⟩) n Z := fun _ hi => ⟨b, rfl, h.cell hi⟩

theorem copy_any (a0 : Option Addr) (n c : Nat) (zs : List Int) (w : World) (h : IsRow .u32 w a0 n c zs) (hn : n ≤ 131072) :
    Calls Try.prog 5 #[.slice a0 n c] w fun e w' => ∃ ao, e = .returned (.slice ao n n) ∧ Rd w' ao n (fun i => zs.getD i 0) ∧ Below w.heap.size w w' := by
  rcases h with ⟨rfl, rfl, rfl, rfl⟩ | ⟨x, rfl, h1, _, h3, h4, _⟩
  · exact (clone_nil w).mono fun e w' ⟨he, hw⟩ => by subst hw; exact ⟨none, he, fun i hi => absurd hi (Nat.not_lt_zero _), Below.refl _ _⟩
  · by_cases h0 : n = 0
    · subst h0
      exact (clone_empty x c (fun i => zs.getD i 0) w).mono fun e w' ⟨he, hr, hb, _⟩ => ⟨_, he, Rd.of_row hr, hb⟩
    · obtain ⟨b, off, spot⟩ := x
      have hspot : spot = none := by simpa [Addr.add] using World.cell?_spot (h4 0 (by omega))
      subst hspot
      exact (clone_some b off n c (fun i => zs.getD i 0) w hn (fun i hi => by
        have := h4 i (by omega)
        rwa [show (⟨b, off, none⟩ : Addr).add i = ⟨b, off + i, none⟩ from by unfold Addr.add; split <;> simp_all] at this)).mono fun e w' ⟨he, hr, hb, _⟩ => ⟨_, he, Rd.of_row hr, hb⟩

/-! ### Admits -/
/-- Is x among the first n? -/
def has (Z : Nat → Int) (x : Int) : Nat → Bool
  | 0 => false
  | n + 1 => has Z x n || decide (Z n = x)
theorem has_iff (Z : Nat → Int) (x : Int) : ∀ n, has Z x n = true ↔ ∃ i, i < n ∧ Z i = x
  | 0 => by simp [has]
  | n + 1 => by
    simp only [has, Bool.or_eq_true, decide_eq_true_eq, has_iff Z x n]
    constructor
    · rintro (⟨i, h1, h2⟩ | h)
      · exact ⟨i, by omega, h2⟩
      · exact ⟨n, by omega, h⟩
    · rintro ⟨i, h1, h2⟩
      by_cases c : i = n
      · subst c; exact .inr h2
      · exact .inl ⟨i, by omega, h2⟩
theorem has_mono (Z : Nat → Int) (x : Int) {k n : Nat} (h : k < n) (e : Z k = x) : has Z x n = true := (has_iff Z x n).2 ⟨k, h, e⟩

set_option maxHeartbeats 1000000 in
set_option maxRecDepth 100000 in
theorem admits_any (p : Nat) (uo go : Option Addr) (n m : Nat) (U G : Nat → Int) (x y : Int) (w : World) (hn : n ≤ 200000) (hm : m ≤ 200000)
    (hu : w.cell? ⟨p, 0, none⟩ = some (.slice uo n n)) (hg : w.cell? ⟨p, 1, none⟩ = some (.slice go m m)) (rU : Hid (Rd w uo n U)) (rG : Hid (Rd w go m G)) :
    Calls Try.prog 6 #[.pointer (some ⟨p, 0, none⟩), .int .u32 x, .int .u32 y] w fun e w' => e = .returned (.bool (has U x n || has G y m)) ∧ w' = w := by
  go_enter Try.func6, Try.ntmps6
  go_wp2
  go_loop [18] (fun i => ∃ k : Nat, k ≤ n ∧ i = .int .i64 k ∧ has U x k = false) (fun i => n - (intOf i).toNat)
  case atStart => exact ⟨0, Nat.zero_le _, rfl, rfl⟩
  case round =>
    obtain ⟨k, hk, rfl, hk0⟩ := hrel
    have HK : Hid (has U x k = false) := hk0
    clear hk0
    by_cases hlt : k < n
    · obtain ⟨be, e1, hc⟩ := rU.out k hlt
      subst e1
      by_cases hit : U k = x
      · have ht : (U k == x) = true := by simp [hit]
        have HH : Hid (has U x n = true) := has_mono U x hlt hit
        clear hit
        go_wp2
        go_ret
        exact ⟨by rw [HH.out]; rfl, rfl⟩
      · have ht : (U k == x) = false := by simp [hit]
        have HH : Hid (has U x (k + 1) = false) := by unfold Hid; rw [has, HK.out]; simp [hit]
        clear hit
        go_wp2
        go_round
        case rel => exact ⟨k + 1, by omega, by go_num, HH.out⟩
        case measure => simp [intOf]; omega
    · obtain rfl : k = n := by omega
      go_wp2
      go_loop [31] (fun i => ∃ j : Nat, j ≤ m ∧ i = .int .i64 j ∧ has G y j = false) (fun i => m - (intOf i).toNat)
      case atStart => exact ⟨0, Nat.zero_le _, rfl, rfl⟩
      case round =>
        obtain ⟨j, hj, rfl, hj0⟩ := hrel
        have HJ : Hid (has G y j = false) := hj0
        clear hj0
        by_cases hlt2 : j < m
        · obtain ⟨be, e1, hc⟩ := rG.out j hlt2
          subst e1
          by_cases hit : G j = y
          · have ht : (G j == y) = true := by simp [hit]
            have HH : Hid (has G y m = true) := has_mono G y hlt2 hit
            clear hit
            go_wp2
            go_ret
            exact ⟨by rw [HH.out, HK.out]; rfl, rfl⟩
          · have ht : (G j == y) = false := by simp [hit]
            have HH : Hid (has G y (j + 1) = false) := by unfold Hid; rw [has, HJ.out]; simp [hit]
            clear hit
            go_wp2
            go_round
            case rel => exact ⟨j + 1, by omega, by go_num, HH.out⟩
            case measure => simp [intOf]; omega
        · obtain rfl : j = m := by omega
          go_wp2
          go_ret
          exact ⟨by rw [HJ.out, HK.out]; rfl, rfl⟩

/-! ### the bound on the lengths -/
theorem len4 (a0 a1 : Option Addr) (n c n1 c1 : Nat) (x y z : Int) (w : World) (hn : n ≤ maxLen) (hn1 : n1 ≤ maxLen) :
    Calls Try.prog 4 #[.slice a0 n c, .slice a1 n1 c1, .int .u32 x, .int .u32 y, .int .u32 z] w fun e w' => (∃ B, e = .returned (.bool B)) ∧ w' = w := by
  unfold maxLen at hn hn1
  go_enter Try.func4, Try.ntmps4
  go_wp2
  all_goals (go_ret; exact ⟨⟨_, rfl⟩, rfl⟩)
theorem len4_small (a0 a1 : Option Addr) (n c n1 c1 : Nat) (x y z : Int) (w : World) (hn : n ≤ 65536) (hn1 : n1 ≤ 65536) :
    Calls Try.prog 4 #[.slice a0 n c, .slice a1 n1 c1, .int .u32 x, .int .u32 y, .int .u32 z] w fun e w' => e = .returned (.bool true) ∧ w' = w := by
  go_enter Try.func4, Try.ntmps4
  go_wp2
  go_ret
  exact ⟨rfl, rfl⟩

end Go.Proofs.Qxb6603965a
