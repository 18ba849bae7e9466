import Derived.Test.Qxb6603891aWays
import Derived.WalkKit
import Derived.ProofKit
import Derived.OpenShut
import Derived.ShutString
import Derived.ChangeOld
import Derived.Below
namespace Go.Proofs.Qxb6603891a.fnSizeIsSumOfBlockSizes
open Go.ChangeShapes Go.WideShapes Go.ChangeAt Go.RowKit
open Go.ChangeMaps (open_string shut_string)
set_option linter.unusedVariables false

theorem own : ownKnob Try.prog.godebug = none := by kernel_rfl
theorem laidOut : laidOutB Try.prog = true := by kernel_rfl

/-! ### The walk -/
set_option maxHeartbeats 1000000 in
set_option maxRecDepth 100000 in
theorem walk_long (a0 : Option Addr) (n c : Nat) (w : World) (h : n ≤ maxLen) (hn : 131072 < n) :
    Calls Try.prog 4 #[.slice a0 n c] w fun e w' => e = .returned (.bool true) ∧ Below w.heap.size w w' := by
  go_enter Try.func4, Try.ntmps4
  go_wp2_with fail
  refine (len10 a0 n c _ h).mono ?_
  rintro e w1 ⟨⟨B, rfl⟩, hw⟩
  subst hw
  cases B
  all_goals
    go_wp2
    go_ret
    exact ⟨rfl, Below.refl _ _⟩

set_option maxHeartbeats 1000000 in
set_option maxRecDepth 100000 in
theorem walk_in (a0 : Option Addr) (n c : Nat) (zs : List Int) (w : World) (hR : Hid (IsRow .i64 w a0 n c zs)) (hn : n ≤ 131072) :
    Calls Try.prog 4 #[.slice a0 n c] w fun e w' => e = .returned (.bool true) ∧ Below w.heap.size w w' := by
  have hB : Hid (∀ i, -9223372036854775808 ≤ zs.getD i 0 ∧ zs.getD i 0 ≤ 9223372036854775807) := fun i => hR.out.bounds i
  obtain ⟨Z, hZ⟩ : ∃ Z : Nat → Int, Hid (Z = fun i => zs.getD i 0) := ⟨_, rfl⟩
  have hBZ : Hid (∀ i, -9223372036854775808 ≤ Z i ∧ Z i ≤ 9223372036854775807) := by rw [hZ.out]; exact hB
  clear hB
  go_enter Try.func4, Try.ntmps4
  go_wp2_with fail
  refine (len10_small a0 n c _ hn).mono ?_
  rintro e w1 ⟨rfl, hw⟩
  subst hw
  go_wp2_with fail
  refine (clone_any a0 n c zs _ hR.out hn).mono ?_
  rintro e w2 ⟨ao, rfl, hRd, hb2⟩
  rw [← hZ.out] at hRd
  clear hR
  go_wp2_with fail
  refine (tree_any ao n n w2).mono ?_
  rintro e w3 ⟨rfl, hw3⟩
  have hT := TW.made hRd
  have hb3 := hb2.alloc hb2.size (tw ao n n)
  rw [hw3] at hT hb3
  clear hRd hw3 hb2
  go_wp2_with fail
  go_loopw [4, 5] (fun x i wr => ∃ k : Nat, k ≤ n ∧ i = .int .i64 k ∧ x = .int .i64 (sz Z k) ∧ TW wr w2.heap.size ao n Z ∧ Below w1.heap.size w1 wr) (fun _ i _ => n - (intOf i).toNat)
  case atStart => exact ⟨0, by omega, rfl, rfl, hT, hb3⟩
  case round =>
    clear hT hb3
    obtain ⟨k, hk, rfl, rfl, hT, hb3⟩ := hrel
    by_cases hlt : k < n
    · have HS : Hid (wrap64 (sz Z k + bs Z k) = sz Z (k + 1)) := sz_succ Z k (hBZ.out k)
      generalize sz Z k = x at *
      go_wp2_with fail
      refine (zzblock_any _ _ n k Z _ (by omega) (by omega) hT).mono ?_
      rintro e w4 ⟨rfl, m, hw4⟩
      subst hw4
      generalize bs Z k = y at *
      go_wp2
      go_roundw
      case rel => exact ⟨k + 1, by omega, by go_num, by rw [← HS.out], hT.drewN, below_drewN hb3⟩
      case measure => simp [intOf]; omega
    · have hkk : k = n := by omega
      subst hkk
      go_wp2_with fail
      refine (zzsize_any _ _ k Z _ (by omega) hT).mono ?_
      rintro e w4 ⟨rfl, m, hw4⟩
      subst hw4
      generalize sz Z k = x at *
      go_wp2
      go_ret
      exact ⟨by simp, below_drewN hb3⟩

theorem walk (a0 : Option Addr) (len0 cap0 : Nat) (z0 : List Int) (w : World) (w0 : IsRow .i64 w a0 len0 cap0 z0) :
    Calls Try.prog 4 #[.slice a0 len0 cap0] w fun e w' => e = .returned (.bool true) ∧ Below w.heap.size w w' := by
  by_cases h : 131072 < len0
  · exact walk_long a0 len0 cap0 w w0.len h
  · exact walk_in a0 len0 cap0 z0 w w0 (by omega)

/-! ### THE ROW's STEP: WRITTEN OUT: LEAVE IT -/
set_option maxRecDepth 100000 in
theorem lifted (os : Os) (started : os.Started) (H : Type) (enc : TypeId × Value → H) :
    ReturnsInHanded {} Try.checked os 4 .any (Rows.fnSizeIsSumOfBlockSizesSpec.pre6 enc Try.prog Try.f4 Rows.fnSizeIsSumOfBlockSizesRow.domain false) (Rows.fnSizeIsSumOfBlockSizesSpec.post enc Try.prog Try.f4 false true false false) := by
  refine returnsInHanded_of_change (C := Try.checked) own started (by kernel_rfl) Try.func4
    (ChangeSpec.witness6 (enc := enc) (C := Try.checked) false ⟨#[], #[.slice none 0 0], []⟩ 8 (by kernel_rfl) (by kernel_rfl) (by kernel_rfl) (by kernel_rfl)) ?_
  intro W base args ds gs before hval0 hW hcnd _
  have hval : ∀ (j : Nat) t v, Try.f4.params[j]? = some t → args[j]? = some v → Value.okWide Try.prog W .any base t v := hval0
  have hW' := hW
  obtain ⟨p, q, hA0, hV, rfl, hfz, hnd⟩ := hW
  have hA : DataW.TrodAll enc Try.prog W 0 (fun _ => true) true Try.f4.params.toList args.toList ds p := hA0
  rw [Try.params4] at hA hval
  obtain ⟨v0, vs0, d0, ds0, p0, q0, hargs, rfl, rfl, h0, r0⟩ := trodAll_cons hA
  obtain ⟨rfl, rfl, rfl⟩ := trodAll_nil r0
  obtain rfl : args = #[v0] := by cases args; simp_all
  obtain ⟨rfl, rfl⟩ := trodVars_none hV
  obtain ⟨a0, len0, cap0, rfl⟩ := okWide_slice Try.underlying22 (hval 0 22 v0 rfl rfl)
  have k0 := h0
  have lt0 : ∀ x ∈ p0, x.block < W.heap.size := by obtain ⟨m, hm⟩ := k0; exact DataW.trod_lt m _ _ _ hm
  obtain ⟨z0, w0⟩ : ∃ zs, IsRow .i64 W a0 len0 cap0 zs := by
    obtain ⟨fuel, hf⟩ := h0
    rcases open_ints Try.underlying22 Try.underlying2 (by kernel_rfl) hf with ⟨hcs, _⟩ | ⟨x, l, c, zs, hcs, _, hl, hm, hz, _, hcell, hwz⟩
    · simp [Value.cells] at hcs
      obtain ⟨rfl, rfl, rfl⟩ := hcs
      exact ⟨[], .inl ⟨rfl, rfl, rfl, rfl⟩⟩
    · simp [Value.cells] at hcs
      obtain ⟨rfl, rfl, rfl⟩ := hcs
      exact ⟨zs, .inr ⟨_, rfl, hl, hm, by simpa using hz, hcell, hwz⟩⟩
  clear hA0 hval0
  refine (walk a0 len0 cap0 z0 W w0).mono fun e W' ⟨he, bel⟩ => ?_
  subst he
  exact ⟨_, rfl, _, _, _, [], _, [], hW', trodAll_mk1 (shut_bool Try.underlying4 _), (trodAll_cons_mk (Below.trod laidOut (by kernel_rfl) (of_decide_eq_true (by kernel_rfl)) k0 bel lt0) trodAll_mk0), rfl, bel.frame _, fun h => by cases h⟩

theorem over : Rows.fnSizeIsSumOfBlockSizesRow.holds Try.pinned (OpenSpec.ofChange Rows.fnSizeIsSumOfBlockSizesSpec) :=
  OpenClaim.holds_of_wide 4 Try.f4 rfl rfl rfl rfl rfl rfl rfl ⟨rfl, rfl, rfl, rfl, rfl⟩ rfl rfl rfl rfl rfl (by kernel_rfl) Try.func4 (by kernel_rfl)
    (of_decide_eq_true (by kernel_rfl)) (by unfold Func.isWrapper; first | (rw [if_pos (by decide +kernel)]; kernel_rfl) | (rw [if_neg (by decide +kernel)]; exact ⟨rfl, rfl⟩))
    (fun os started H enc _ => lifted os started H enc)

/-- ████ THE STATEMENT ████ -/
theorem proved : Rows.FnSizeIsSumOfBlockSizesSaid := over
#print axioms proved
end Go.Proofs.Qxb6603891a.fnSizeIsSumOfBlockSizes
