import Derived.Test.Qxb6603891aParts
namespace Go.Proofs.Qxb6603891a
open Go.RowKit

/-- WHAT THE WALK IS TOLD OF A SLICE OF INTEGERS THAT CAME IN: it is nil; or it leads to a row of 'cap' cells, the numbers 'zs'. -/
def IsRow (k : IntKind) (w : World) (a : Option Addr) (len cap : Nat) (zs : List Int) : Prop :=
  (a = none ∧ len = 0 ∧ cap = 0 ∧ zs = []) ∨
  ∃ x, a = some x ∧ len ≤ cap ∧ cap ≤ maxLen ∧ zs.length = cap ∧ (∀ i, i < zs.length → w.cell? (x.add i) = some (.int k (zs.getD i 0))) ∧ ∀ n ∈ zs, (Lit.int k n).wf = true

/-- The slice at 'ao' reads as the numbers Z below n. -/
def Rd (w : World) (ao : Option Addr) (n : Nat) (Z : Nat → Int) : Prop :=
  ∀ i, i < n → ∃ be, ao = some ⟨be, 0, none⟩ ∧ w.cell? ⟨be, i, none⟩ = some (.int .i64 (Z i))
theorem Rd.below {w w' : World} {ao : Option Addr} {n : Nat} {Z : Nat → Int} (h : Rd w ao n Z) (hb : Below w.heap.size w w') : Rd w' ao n Z := fun i hi => by
  obtain ⟨be, e, hc⟩ := h i hi
  exact ⟨be, e, (hb.cell (p := ⟨be, i, none⟩) (World.block_lt_of_cell? _ _ hc)).trans hc⟩
theorem Rd.drewN {w : World} {ao : Option Addr} {n m : Nat} {Z : Nat → Int} (h : Rd w ao n Z) : Rd (w.drewN m) ao n Z := h
theorem Rd.of_row {w : World} {b n : Nat} {Z : Nat → Int} (h : w.rowIs b 2 n (fun i => .int .i64 (Z i))) : Rd w (some ⟨b, 0, none⟩) n Z := fun _ hi => ⟨b, rfl, h.cell hi⟩

/-- The TreeWalk at 'p' bears that slice. -/
structure TW (w : World) (p : Nat) (ao : Option Addr) (n : Nat) (Z : Nat → Int) : Prop where
  cell : w.cell? ⟨p, 4, none⟩ = some (.slice ao n n)
  rd : Rd w ao n Z
theorem TW.below {w w' : World} {p : Nat} {ao : Option Addr} {n : Nat} {Z : Nat → Int} (h : TW w p ao n Z) (hb : Below w.heap.size w w') : TW w' p ao n Z :=
  ⟨(hb.cell (p := ⟨p, 4, none⟩) (World.block_lt_of_cell? _ _ h.cell)).trans h.cell, h.rd.below hb⟩
theorem TW.drewN {w : World} {p : Nat} {ao : Option Addr} {n m : Nat} {Z : Nat → Int} (h : TW w p ao n Z) : TW (w.drewN m) p ao n Z := ⟨h.cell, h.rd⟩
theorem TW.made {w : World} {ao : Option Addr} {n : Nat} {Z : Nat → Int} (h : Rd w ao n Z) : TW (w.alloc (tw ao n n)) w.heap.size ao n Z :=
  ⟨tw_cell ao n n w, h.below ((Below.refl _ _).alloc (Nat.le_refl _) _)⟩

/-! ### contracts for every slice -/
theorem clone_any (a0 : Option Addr) (n c : Nat) (zs : List Int) (w : World) (h : IsRow .i64 w a0 n c zs) (hn : n ≤ 131072) :
    Calls Try.prog 7 #[.slice a0 n c] w fun e w' => ∃ ao, e = .returned (.slice ao n n) ∧ Rd w' ao n (fun i => zs.getD i 0) ∧ Below w.heap.size w w' := by
  rcases h with ⟨rfl, rfl, rfl, rfl⟩ | ⟨x, rfl, h1, _, h3, h4, _⟩
  · exact (clone_nil w).mono fun e w' ⟨he, hw⟩ => by subst hw; exact ⟨none, he, fun i hi => absurd hi (Nat.not_lt_zero _), Below.refl _ _⟩
  · by_cases h0 : n = 0
    · subst h0
      exact (clone_empty x c (fun i => zs.getD i 0) w).mono fun e w' ⟨he, hr, hb, _⟩ => ⟨_, he, Rd.of_row hr, hb⟩
    · obtain ⟨b, off, spot⟩ := x
      have hspot : spot = none := by simpa [Addr.add] using World.cell?_spot (h4 0 (by omega))
      subst hspot
      exact (clone_some b off n c (fun i => zs.getD i 0) w hn (fun i hi => by
        have := h4 i (by omega)
        rwa [show (⟨b, off, none⟩ : Addr).add i = ⟨b, off + i, none⟩ from by unfold Addr.add; split <;> simp_all] at this)).mono fun e w' ⟨he, hr, hb, _⟩ => ⟨_, he, Rd.of_row hr, hb⟩

theorem block_any (p : Nat) (ao : Option Addr) (n k : Nat) (Z : Nat → Int) (w : World) (hk : k < n) (hn : n ≤ 200000) (h : TW w p ao n Z) :
    Calls Try.prog 13 #[.pointer (some ⟨p, 0, none⟩), .int .i64 k] w fun e w' => e = .returned (.int .i64 (bs Z k)) ∧ ∃ m, w' = w.drewN m := by
  obtain ⟨be, e, hc⟩ := h.rd k hk
  have hp := h.cell
  rw [e] at hp
  cases k with
  | zero => exact block_zero p be n n Z w (by omega) hp hc
  | succ k =>
    obtain ⟨be', e', hc'⟩ := h.rd k (by omega)
    obtain rfl : be = be' := by rw [e] at e'; simpa using e'
    have := block_succ p be n n k Z w hk hn hp hc' hc
    rwa [show ((k : Int) + 1) = ((k + 1 : Nat) : Int) from by omega] at this
theorem zzblock_any (p : Nat) (ao : Option Addr) (n k : Nat) (Z : Nat → Int) (w : World) (hk : k < n) (hn : n ≤ 200000) (h : TW w p ao n Z) :
    Calls Try.prog 9 #[.pointer (some ⟨p, 0, none⟩), .int .i64 k] w fun e w' => e = .returned (.int .i64 (bs Z k)) ∧ ∃ m, w' = w.drewN m := by
  go_enter Try.func9, Try.ntmps9
  go_wp2_with fail
  refine (block_any p ao n k Z _ hk hn h).mono ?_
  rintro e w1 ⟨rfl, m, hw⟩
  subst hw
  go_wp2
  go_ret
  exact ⟨rfl, m, rfl⟩

/-- What size gives. -/
def sz (Z : Nat → Int) : Nat → Int
  | 0 => 0
  | n + 1 => Z n
theorem size_any (p : Nat) (ao : Option Addr) (n : Nat) (Z : Nat → Int) (w : World) (hn : n ≤ 200000) (h : TW w p ao n Z) :
    Calls Try.prog 14 #[.pointer (some ⟨p, 0, none⟩)] w fun e w' => e = .returned (.int .i64 (sz Z n)) ∧ ∃ m, w' = w.drewN m := by
  cases n with
  | zero => exact size_zero p ao 0 w h.cell
  | succ n =>
    obtain ⟨be, e, hc⟩ := h.rd n (by omega)
    have hp := h.cell
    rw [e] at hp
    exact size_succ p be n (n + 1) (Z n) w (by omega) hp hc
theorem zzsize_any (p : Nat) (ao : Option Addr) (n : Nat) (Z : Nat → Int) (w : World) (hn : n ≤ 200000) (h : TW w p ao n Z) :
    Calls Try.prog 11 #[.pointer (some ⟨p, 0, none⟩)] w fun e w' => e = .returned (.int .i64 (sz Z n)) ∧ ∃ m, w' = w.drewN m := by
  go_enter Try.func11, Try.ntmps11
  go_wp2_with fail
  refine (size_any p ao n Z _ hn h).mono ?_
  rintro e w1 ⟨rfl, m, hw⟩
  subst hw
  go_wp2
  go_ret
  exact ⟨rfl, m, rfl⟩

/-! ### the three bounds on the length -/
theorem len6 (a0 : Option Addr) (n c : Nat) (b : Int) (w : World) (hn : n ≤ maxLen) :
    Calls Try.prog 6 #[.slice a0 n c, .int .i64 b] w fun e w' => (∃ B, e = .returned (.bool B)) ∧ w' = w := by
  unfold maxLen at hn
  go_enter Try.func6, Try.ntmps6
  go_wp2
  all_goals (go_ret; exact ⟨⟨_, rfl⟩, rfl⟩)
theorem len6_small (a0 : Option Addr) (n c : Nat) (b : Int) (w : World) (hn : n ≤ 131072) :
    Calls Try.prog 6 #[.slice a0 n c, .int .i64 b] w fun e w' => e = .returned (.bool true) ∧ w' = w := by
  go_enter Try.func6, Try.ntmps6
  go_wp2
  go_ret
  exact ⟨rfl, rfl⟩
theorem len10 (a0 : Option Addr) (n c : Nat) (w : World) (hn : n ≤ maxLen) :
    Calls Try.prog 10 #[.slice a0 n c] w fun e w' => (∃ B, e = .returned (.bool B)) ∧ w' = w := by
  unfold maxLen at hn
  go_enter Try.func10, Try.ntmps10
  go_wp2
  all_goals (go_ret; exact ⟨⟨_, rfl⟩, rfl⟩)
theorem len10_small (a0 : Option Addr) (n c : Nat) (w : World) (hn : n ≤ 131072) :
    Calls Try.prog 10 #[.slice a0 n c] w fun e w' => e = .returned (.bool true) ∧ w' = w := by
  go_enter Try.func10, Try.ntmps10
  go_wp2
  go_ret
  exact ⟨rfl, rfl⟩
theorem len12 (a0 : Option Addr) (n c : Nat) (b : Int) (w : World) (hn : n ≤ maxLen) :
    Calls Try.prog 12 #[.slice a0 n c, .int .i64 b] w fun e w' => (∃ B, e = .returned (.bool B)) ∧ w' = w := by
  unfold maxLen at hn
  go_enter Try.func12, Try.ntmps12
  go_wp2
  all_goals (go_ret; exact ⟨⟨_, rfl⟩, rfl⟩)
theorem len12_small (a0 : Option Addr) (n c : Nat) (b : Int) (w : World) (hn : n ≤ 131072) :
    Calls Try.prog 12 #[.slice a0 n c, .int .i64 b] w fun e w' => e = .returned (.bool true) ∧ w' = w := by
  go_enter Try.func12, Try.ntmps12
  go_wp2
  go_ret
  exact ⟨rfl, rfl⟩

/-! ### the plain laws -/
theorem wrap_tele (a b : Int) (hb : -9223372036854775808 ≤ b ∧ b ≤ 9223372036854775807) : wrap64 (a + wrap64 (b - a)) = b := by
  unfold wrap64; omega
theorem sz_succ (Z : Nat → Int) (k : Nat) (hz : -9223372036854775808 ≤ Z k ∧ Z k ≤ 9223372036854775807) : wrap64 (sz Z k + bs Z k) = sz Z (k + 1) := by
  cases k with
  | zero => show wrap64 (0 + Z 0) = Z 0; unfold wrap64; omega
  | succ k => exact wrap_tele _ _ hz
theorem getD_bounds {zs : List Int} (h : ∀ n ∈ zs, (Lit.int .i64 n).wf = true) (i : Nat) : -9223372036854775808 ≤ zs.getD i 0 ∧ zs.getD i 0 ≤ 9223372036854775807 := by
  rw [List.getD_eq_getElem?_getD]
  have hw : (Lit.int .i64 (zs[i]?.getD 0)).wf = true := by
    by_cases c : i < zs.length
    · rw [List.getElem?_eq_getElem c]; exact h _ (List.getElem_mem _)
    · rw [List.getElem?_eq_none (by omega)]; decide
  simp [Lit.wf, IntKind.min, IntKind.max, IntKind.signed, IntKind.bits] at hw
  omega
theorem IsRow.bounds {w : World} {a : Option Addr} {n c : Nat} {zs : List Int} (h : IsRow .i64 w a n c zs) (i : Nat) : -9223372036854775808 ≤ zs.getD i 0 ∧ zs.getD i 0 ≤ 9223372036854775807 := by
  rcases h with ⟨_, _, _, rfl⟩ | ⟨_, _, _, _, _, _, h⟩
  · simp
  · exact getD_bounds h i
theorem IsRow.len {k : IntKind} {w : World} {a : Option Addr} {n c : Nat} {zs : List Int} (h : IsRow k w a n c zs) : n ≤ maxLen := by
  rcases h with ⟨_, rfl, _, _⟩ | ⟨_, _, h1, h2, _⟩
  · exact Nat.zero_le _
  · exact Nat.le_trans h1 h2

end Go.Proofs.Qxb6603891a
