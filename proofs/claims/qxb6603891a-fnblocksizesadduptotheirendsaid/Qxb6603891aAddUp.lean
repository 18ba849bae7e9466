import Derived.Test.Qxb6603891aWays
import Derived.WalkKit
import Derived.ProofKit
import Derived.OpenShut
import Derived.ShutString
import Derived.ChangeOld
import Derived.Below
namespace Go.Proofs.Qxb6603891a.fnBlockSizesAddUpToTheirEnd
open Go.ChangeShapes Go.WideShapes Go.ChangeAt Go.RowKit
open Go.ChangeMaps (open_string shut_string)
set_option linter.unusedVariables false

theorem own : ownKnob Try.prog.godebug = none := by kernel_rfl
theorem laidOut : laidOutB Try.prog = true := by kernel_rfl

/-! ### The walk -/
set_option maxHeartbeats 1000000 in
set_option maxRecDepth 100000 in
theorem walk_long (a0 : Option Addr) (n c : Nat) (b : Int) (w : World) (h : n ≤ maxLen) (hn : 131072 < n) :
    Calls Try.prog 3 #[.slice a0 n c, .int .i64 b] w fun e w' => e = .returned (.bool true) ∧ Below w.heap.size w w' := by
  go_enter Try.func3, Try.ntmps3
  go_wp2_with fail
  refine (len6 a0 n c b _ h).mono ?_
  rintro e w1 ⟨⟨B, rfl⟩, hw⟩
  subst hw
  cases B
  all_goals
    go_wp2
    go_ret
    exact ⟨rfl, Below.refl _ _⟩

set_option maxHeartbeats 1000000 in
set_option maxRecDepth 100000 in
theorem walk_out (a0 : Option Addr) (n c : Nat) (b : Int) (w : World) (hn : n ≤ 131072) (h : b < 0 ∨ (n : Int) ≤ b) :
    Calls Try.prog 3 #[.slice a0 n c, .int .i64 b] w fun e w' => e = .returned (.bool true) ∧ Below w.heap.size w w' := by
  by_cases h1 : b < 0
  · go_enter Try.func3, Try.ntmps3
    go_wp2_with fail
    refine (len6_small a0 n c b _ hn).mono ?_
    rintro e w1 ⟨rfl, hw⟩
    subst hw
    go_wp2
    go_ret
    exact ⟨rfl, Below.refl _ _⟩
  · have h2 : (n : Int) ≤ b := by omega
    have h3 : 0 ≤ b := by omega
    clear h h1
    go_enter Try.func3, Try.ntmps3
    go_wp2_with fail
    refine (len6_small a0 n c b _ hn).mono ?_
    rintro e w1 ⟨rfl, hw⟩
    subst hw
    go_wp2
    go_ret
    exact ⟨rfl, Below.refl _ _⟩

set_option maxHeartbeats 1000000 in
set_option maxRecDepth 100000 in
theorem walk_in (a0 : Option Addr) (n c b : Nat) (zs : List Int) (w : World) (hR : Hid (IsRow .i64 w a0 n c zs)) (hn : n ≤ 131072) (hb : b < n) :
    Calls Try.prog 3 #[.slice a0 n c, .int .i64 b] w fun e w' => e = .returned (.bool true) ∧ Below w.heap.size w w' := by
  have hB : Hid (∀ i, -9223372036854775808 ≤ zs.getD i 0 ∧ zs.getD i 0 ≤ 9223372036854775807) := fun i => hR.out.bounds i
  obtain ⟨Z, hZ⟩ : ∃ Z : Nat → Int, Hid (Z = fun i => zs.getD i 0) := ⟨_, rfl⟩
  have hBZ : Hid (∀ i, -9223372036854775808 ≤ Z i ∧ Z i ≤ 9223372036854775807) := by rw [hZ.out]; exact hB
  clear hB
  go_enter Try.func3, Try.ntmps3
  go_wp2_with fail
  refine (len6_small a0 n c b _ hn).mono ?_
  rintro e w1 ⟨rfl, hw⟩
  subst hw
  go_wp2_with fail
  refine (clone_any a0 n c zs _ hR.out hn).mono ?_
  rintro e w2 ⟨ao, rfl, hRd, hb2⟩
  rw [← hZ.out] at hRd
  clear hR
  go_wp2_with fail
  refine (tree_any ao n n w2).mono ?_
  rintro e w3 ⟨rfl, hw3⟩
  have hT := TW.made hRd
  have hb3 := hb2.alloc hb2.size (tw ao n n)
  rw [hw3] at hT hb3
  clear hRd hw3 hb2
  obtain ⟨be, e0, _⟩ := hT.rd b hb
  subst e0
  go_wp2_with fail
  go_loopw [6, 7] (fun x i wr => ∃ k : Nat, k ≤ b + 1 ∧ i = .int .i64 k ∧ x = .int .i64 (sz Z k) ∧ TW wr w2.heap.size (some ⟨be, 0, none⟩) n Z ∧ Below w1.heap.size w1 wr) (fun _ i _ => b + 1 - (intOf i).toNat)
  case atStart => exact ⟨0, by omega, rfl, rfl, hT, hb3⟩
  case round =>
    clear hT hb3
    obtain ⟨k, hk, rfl, rfl, hT, hb3⟩ := hrel
    have HS : Hid (wrap64 (sz Z k + bs Z k) = sz Z (k + 1)) := sz_succ Z k (hBZ.out k)
    by_cases hlt : k < b + 1
    · have hle : (k : Int) ≤ (b : Int) := by omega
      generalize sz Z k = x at *
      go_wp2_with fail
      refine (zzblock_any _ _ n k Z _ (by omega) (by omega) hT).mono ?_
      rintro e w4 ⟨rfl, m, hw4⟩
      subst hw4
      generalize bs Z k = y at *
      go_wp2
      go_roundw
      case rel => exact ⟨k + 1, by omega, by go_num, by rw [← HS.out], hT.drewN, below_drewN hb3⟩
      case measure => simp [intOf]; omega
    · have hkk : k = b + 1 := by omega
      subst hkk
      clear HS
      obtain ⟨be', e0, hc⟩ := hT.rd b hb
      obtain rfl : be = be' := by simpa using e0
      have hbn : (b : Int) < (n : Int) := by omega
      have hsz : sz Z (b + 1) = Z b := rfl
      go_wp2
      go_ret
      exact ⟨by simp, hb3⟩

theorem walk (a0 : Option Addr) (len0 cap0 : Nat) (z0 : List Int) (a1 : Int) (w : World) (w0 : IsRow .i64 w a0 len0 cap0 z0) (w1 : (Lit.int .i64 a1).wf = true) :
    Calls Try.prog 3 #[.slice a0 len0 cap0, .int .i64 a1] w fun e w' => e = .returned (.bool true) ∧ Below w.heap.size w w' := by
  by_cases h : 131072 < len0
  · exact walk_long a0 len0 cap0 a1 w w0.len h
  by_cases h1 : a1 < 0 ∨ (len0 : Int) ≤ a1
  · exact walk_out a0 len0 cap0 a1 w (by omega) h1
  · obtain ⟨b, rfl⟩ : ∃ b : Nat, a1 = b := ⟨a1.toNat, by omega⟩
    exact walk_in a0 len0 cap0 b z0 w w0 (by omega) (by omega)

/-! ### THE ROW's STEP: WRITTEN OUT: LEAVE IT -/
set_option maxRecDepth 100000 in
theorem lifted (os : Os) (started : os.Started) (H : Type) (enc : TypeId × Value → H) :
    ReturnsInHanded {} Try.checked os 3 .any (Rows.fnBlockSizesAddUpToTheirEndSpec.pre6 enc Try.prog Try.f3 Rows.fnBlockSizesAddUpToTheirEndRow.domain false) (Rows.fnBlockSizesAddUpToTheirEndSpec.post enc Try.prog Try.f3 false true false false) := by
  refine returnsInHanded_of_change (C := Try.checked) own started (by kernel_rfl) Try.func3
    (ChangeSpec.witness6 (enc := enc) (C := Try.checked) false ⟨#[], #[.slice none 0 0, .int .i64 0], []⟩ 8 (by kernel_rfl) (by kernel_rfl) (by kernel_rfl) (by kernel_rfl)) ?_
  intro W base args ds gs before hval0 hW hcnd _
  have hval : ∀ (j : Nat) t v, Try.f3.params[j]? = some t → args[j]? = some v → Value.okWide Try.prog W .any base t v := hval0
  have hW' := hW
  obtain ⟨p, q, hA0, hV, rfl, hfz, hnd⟩ := hW
  have hA : DataW.TrodAll enc Try.prog W 0 (fun _ => true) true Try.f3.params.toList args.toList ds p := hA0
  rw [Try.params3] at hA hval
  obtain ⟨v0, vs0, d0, ds0, p0, q0, hargs, rfl, rfl, h0, r0⟩ := trodAll_cons hA
  obtain ⟨v1, vs1, d1, ds1, p1, q1, rfl, rfl, rfl, h1, r1⟩ := trodAll_cons r0
  obtain ⟨rfl, rfl, rfl⟩ := trodAll_nil r1
  obtain rfl : args = #[v0, v1] := by cases args; simp_all
  obtain ⟨rfl, rfl⟩ := trodVars_none hV
  obtain ⟨a0, len0, cap0, rfl⟩ := okWide_slice Try.underlying22 (hval 0 22 v0 rfl rfl)
  have k0 := h0
  have lt0 : ∀ x ∈ p0, x.block < W.heap.size := by obtain ⟨m, hm⟩ := k0; exact DataW.trod_lt m _ _ _ hm
  obtain ⟨z0, w0⟩ : ∃ zs, IsRow .i64 W a0 len0 cap0 zs := by
    obtain ⟨fuel, hf⟩ := h0
    rcases open_ints Try.underlying22 Try.underlying2 (by kernel_rfl) hf with ⟨hcs, _⟩ | ⟨x, l, c, zs, hcs, _, hl, hm, hz, _, hcell, hwz⟩
    · simp [Value.cells] at hcs
      obtain ⟨rfl, rfl, rfl⟩ := hcs
      exact ⟨[], .inl ⟨rfl, rfl, rfl, rfl⟩⟩
    · simp [Value.cells] at hcs
      obtain ⟨rfl, rfl, rfl⟩ := hcs
      exact ⟨zs, .inr ⟨_, rfl, hl, hm, by simpa using hz, hcell, hwz⟩⟩
  obtain ⟨a1, rfl, rfl, rfl, w1⟩ := open_int Try.underlying3 (hval 1 3 v1 rfl rfl) h1
  clear hA0 hval0
  refine (walk a0 len0 cap0 z0 a1 W w0 w1).mono fun e W' ⟨he, bel⟩ => ?_
  subst he
  exact ⟨_, rfl, _, _, _, [], _, [], hW', trodAll_mk1 (shut_bool Try.underlying4 _), (trodAll_cons_mk (Below.trod laidOut (by kernel_rfl) (of_decide_eq_true (by kernel_rfl)) k0 bel lt0) (trodAll_cons_mk (shut_int Try.underlying3 w1) trodAll_mk0)), rfl, bel.frame _, fun h => by cases h⟩

theorem over : Rows.fnBlockSizesAddUpToTheirEndRow.holds Try.pinned (OpenSpec.ofChange Rows.fnBlockSizesAddUpToTheirEndSpec) :=
  OpenClaim.holds_of_wide 3 Try.f3 rfl rfl rfl rfl rfl rfl rfl ⟨rfl, rfl, rfl, rfl, rfl⟩ rfl rfl rfl rfl rfl (by kernel_rfl) Try.func3 (by kernel_rfl)
    (of_decide_eq_true (by kernel_rfl)) (by unfold Func.isWrapper; first | (rw [if_pos (by decide +kernel)]; kernel_rfl) | (rw [if_neg (by decide +kernel)]; exact ⟨rfl, rfl⟩))
    (fun os started H enc _ => lifted os started H enc)

/-- ████ THE STATEMENT ████ -/
theorem proved : Rows.FnBlockSizesAddUpToTheirEndSaid := over
#print axioms proved
end Go.Proofs.Qxb6603891a.fnBlockSizesAddUpToTheirEnd
