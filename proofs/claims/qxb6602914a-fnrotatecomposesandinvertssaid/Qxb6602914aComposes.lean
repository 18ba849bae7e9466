import Derived.Test.Qxb6602914aRot
import Derived.WalkKit
import Derived.ProofKit
import Derived.OpenShut
import Derived.ShutString
import Derived.ChangeOld
import Derived.Below
namespace Go.Proofs.Qxb6602914a.fnRotateComposesAndInverts
open Go.ChangeShapes Go.WideShapes Go.ChangeAt Go.RowKit
open Go.ChangeMaps (open_string shut_string)
set_option linter.unusedVariables false      -- a walk need not use every 'w<i>' (that an integer argument fits its kind)

theorem own : ownKnob Try.prog.godebug = none := by kernel_rfl

/-! ### The walk -/
theorem nat_of {x : Int} (h : 0 ≤ x) : ∃ n : Nat, x = n := ⟨x.toNat, by omega⟩

theorem zz_of (h l n : Nat) (r : Int) (hr : r = n) (w : World) (hh : h < 18446744073709551616) (hl : l < 18446744073709551616) (hn : n < 128) :
    Calls Try.prog 5 #[.int .u64 h, .int .u64 l, .int .i64 r] w fun e w' => e = .returned (.tuple #[.int .u64 (rotH h l n), .int .u64 (rotL h l n)]) ∧ Below w.heap.size w w' := by
  subst hr; exact zz_any h l n w hh hl hn
theorem zz_comp (h l a b : Nat) (w : World) (hh : h < 18446744073709551616) (hl : l < 18446744073709551616) (ha : a < 128) (hb : b < 128) :
    Calls Try.prog 5 #[.int .u64 (rotH h l a), .int .u64 (rotL h l a), .int .i64 b] w fun e w' => e = .returned (.tuple #[.int .u64 (rotH h l ((a + b) % 128)), .int .u64 (rotL h l ((a + b) % 128))]) ∧ Below w.heap.size w w' := by
  have c := rot_comp h l a b hh hl ha hb
  rw [← c.1, ← c.2]
  exact zz_any _ _ _ w (rotH_lt h l a hh hl) (rotL_lt h l a hh hl) hb
theorem zz_back (h l s : Nat) (r : Int) (hr : r = ((128 - s) % 128 : Nat)) (w : World) (hh : h < 18446744073709551616) (hl : l < 18446744073709551616) (hs : s < 128) :
    Calls Try.prog 5 #[.int .u64 (rotH h l s), .int .u64 (rotL h l s), .int .i64 r] w fun e w' => e = .returned (.tuple #[.int .u64 h, .int .u64 l]) ∧ Below w.heap.size w w' := by
  subst hr
  have c := rot_inv h l s hh hl hs
  have d := zz_any _ _ ((128 - s) % 128) w (rotH_lt h l s hh hl) (rotL_lt h l s hh hl) (by omega)
  rw [c.1, c.2] at d
  exact d

set_option maxHeartbeats 1000000 in
theorem walk_in (h l a b : Nat) (w : World) (hh : h < 18446744073709551616) (hl : l < 18446744073709551616) (ha : a < 128) (hb : b < 128) :
    Calls Try.prog 4 #[.int .u64 h, .int .u64 l, .int .i64 a, .int .i64 b] w fun e w' => e = .returned (.bool true) ∧ Below w.heap.size w w' := by
  go_enter Try.func4, Try.ntmps4
  go_wp2_with fail
  refine (zz_any h l a _ hh hl ha).mono ?_
  rintro e w1 ⟨rfl, hb1⟩
  go_wp2_with fail
  refine (zz_comp h l a b _ hh hl ha hb).mono ?_
  rintro e w2 ⟨rfl, hb2⟩
  go_wp2_with fail
  refine (zz_of h l ((a + b) % 128) _ (by omega) _ hh hl (by omega)).mono ?_
  rintro e w3 ⟨rfl, hb3⟩
  go_wp2_with fail
  refine (zz_back h l ((a + b) % 128) _ (by omega) _ hh hl (by omega)).mono ?_
  rintro e w4 ⟨rfl, hb4⟩
  go_wp2
  go_ret
  exact ⟨rfl, ((hb1.trans (hb2.mono hb1.size)).trans (hb3.mono (Nat.le_trans hb1.size hb2.size))).trans (hb4.mono (Nat.le_trans hb1.size (Nat.le_trans hb2.size hb3.size)))⟩

theorem walk (a0 : Int) (a1 : Int) (a2 : Int) (a3 : Int) (w0 : (Lit.int .u64 a0).wf = true) (w1 : (Lit.int .u64 a1).wf = true) (w2 : (Lit.int .i64 a2).wf = true) (w3 : (Lit.int .i64 a3).wf = true) (w : World) :
    Calls Try.prog 4 #[.int .u64 a0, .int .u64 a1, .int .i64 a2, .int .i64 a3] w fun e w' => e = .returned (.bool true) ∧ Below w.heap.size w w' := by
  have b0 := bounds_u64 w0
  have b1 := bounds_u64 w1
  clear w0 w1 w2 w3
  by_cases c2 : a2 < 0
  · go_enter Try.func4, Try.ntmps4
    go_wp2
    go_ret
    exact ⟨rfl, Below.refl _ _⟩
  by_cases d2 : 127 < a2
  · go_enter Try.func4, Try.ntmps4
    go_wp2
    go_ret
    exact ⟨rfl, Below.refl _ _⟩
  by_cases c3 : a3 < 0
  · go_enter Try.func4, Try.ntmps4
    go_wp2
    go_ret
    exact ⟨rfl, Below.refl _ _⟩
  by_cases d3 : 127 < a3
  · go_enter Try.func4, Try.ntmps4
    go_wp2
    go_ret
    exact ⟨rfl, Below.refl _ _⟩
  obtain ⟨h, rfl⟩ := nat_of b0.1
  obtain ⟨l, rfl⟩ := nat_of b1.1
  obtain ⟨a, rfl⟩ := nat_of (x := a2) (by omega)
  obtain ⟨b, rfl⟩ := nat_of (x := a3) (by omega)
  exact walk_in h l a b w (by omega) (by omega) (by omega) (by omega)

/-! ### THE ROW's STEP: WRITTEN OUT: LEAVE IT -/
set_option maxRecDepth 100000 in
theorem lifted (os : Os) (started : os.Started) (H : Type) (enc : TypeId × Value → H) :
    ReturnsInHanded {} Try.checked os 4 .any (Rows.fnRotateComposesAndInvertsSpec.pre6 enc Try.prog Try.f4 Rows.fnRotateComposesAndInvertsRow.domain false) (Rows.fnRotateComposesAndInvertsSpec.post enc Try.prog Try.f4 false true false false) := by
  refine returnsInHanded_of_change (C := Try.checked) own started (by kernel_rfl) Try.func4
    (ChangeSpec.witness6 (enc := enc) (C := Try.checked) false ⟨#[], #[.int .u64 0, .int .u64 0, .int .i64 0, .int .i64 0], []⟩ 8 (by kernel_rfl) (by kernel_rfl) (by kernel_rfl) (by kernel_rfl)) ?_
  intro W base args ds gs before hval0 hW hcnd _
  have hval : ∀ (j : Nat) t v, Try.f4.params[j]? = some t → args[j]? = some v → Value.okWide Try.prog W .any base t v := hval0
  have hW' := hW
  obtain ⟨p, q, hA0, hV, rfl, hfz, hnd⟩ := hW
  have hA : DataW.TrodAll enc Try.prog W 0 (fun _ => true) true Try.f4.params.toList args.toList ds p := hA0
  rw [Try.params4] at hA hval
  obtain ⟨v0, vs0, d0, ds0, p0, q0, hargs, rfl, rfl, h0, r0⟩ := trodAll_cons hA
  obtain ⟨v1, vs1, d1, ds1, p1, q1, rfl, rfl, rfl, h1, r1⟩ := trodAll_cons r0
  obtain ⟨v2, vs2, d2, ds2, p2, q2, rfl, rfl, rfl, h2, r2⟩ := trodAll_cons r1
  obtain ⟨v3, vs3, d3, ds3, p3, q3, rfl, rfl, rfl, h3, r3⟩ := trodAll_cons r2
  obtain ⟨rfl, rfl, rfl⟩ := trodAll_nil r3
  obtain rfl : args = #[v0, v1, v2, v3] := by cases args; simp_all
  obtain ⟨rfl, rfl⟩ := trodVars_none hV
  obtain ⟨a0, rfl, rfl, rfl, w0⟩ := open_int Try.underlying22 (hval 0 22 v0 rfl rfl) h0
  obtain ⟨a1, rfl, rfl, rfl, w1⟩ := open_int Try.underlying22 (hval 1 22 v1 rfl rfl) h1
  obtain ⟨a2, rfl, rfl, rfl, w2⟩ := open_int Try.underlying3 (hval 2 3 v2 rfl rfl) h2
  obtain ⟨a3, rfl, rfl, rfl, w3⟩ := open_int Try.underlying3 (hval 3 3 v3 rfl rfl) h3
  clear hA0 hval0
  simp only [List.append_nil] at hW'
  refine (walk a0 a1 a2 a3 w0 w1 w2 w3 W).mono fun e W' ⟨he, bel⟩ => ?_
  subst he
  exact ⟨_, rfl, _, _, _, [], _, [], hW', trodAll_mk1 (shut_bool Try.underlying4 _), (trodAll_cons_mk (shut_int Try.underlying22 w0) (trodAll_cons_mk (shut_int Try.underlying22 w1) (trodAll_cons_mk (shut_int Try.underlying3 w2) (trodAll_cons_mk (shut_int Try.underlying3 w3) trodAll_mk0)))), rfl, bel.frame _, fun h => by cases h⟩

theorem over : Rows.fnRotateComposesAndInvertsRow.holds Try.pinned (OpenSpec.ofChange Rows.fnRotateComposesAndInvertsSpec) :=
  OpenClaim.holds_of_wide 4 Try.f4 rfl rfl rfl rfl rfl rfl rfl ⟨rfl, rfl, rfl, rfl, rfl⟩ rfl rfl rfl rfl rfl (by kernel_rfl) Try.func4 (by kernel_rfl)
    (of_decide_eq_true (by kernel_rfl)) (by unfold Func.isWrapper; first | (rw [if_pos (by decide +kernel)]; kernel_rfl) | (rw [if_neg (by decide +kernel)]; exact ⟨rfl, rfl⟩))
    (fun os started H enc _ => lifted os started H enc)

/-- ████ THE STATEMENT ████ -/
theorem proved : Rows.FnRotateComposesAndInvertsSaid :=
  over
#print axioms proved
end Go.Proofs.Qxb6602914a.fnRotateComposesAndInverts
