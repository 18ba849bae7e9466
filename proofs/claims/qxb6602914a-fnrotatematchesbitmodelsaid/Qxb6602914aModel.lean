import Derived.Test.Qxb6602914aRot
import Derived.WalkKit
import Derived.ProofKit
import Derived.OpenShut
import Derived.ShutString
import Derived.ChangeOld
import Derived.Below
namespace Go.Proofs.Qxb6602914a.fnRotateMatchesBitModel
open Go.ChangeShapes Go.WideShapes Go.ChangeAt Go.RowKit
open Go.ChangeMaps (open_string shut_string)
set_option linter.unusedVariables false      -- a walk need not use every 'w<i>' (that an integer argument fits its kind)

theorem own : ownKnob Try.prog.godebug = none := by kernel_rfl

/-! ### The walk -/
theorem nat_of {x : Int} (h : 0 ≤ x) : ∃ n : Nat, x = n := ⟨x.toNat, by omega⟩

/-- 'want |= b << j', b a bit. -/
theorem put_form (x : Nat) (b : Bool) (j : Nat) (hx : x < 18446744073709551616) (hj : j < 64) :
    bits .or .u64 (x : Int) (IntKind.u64.wrap ((b.toNat : Int) * 2 ^ j)) = ((x ||| b.toNat * 2 ^ j : Nat) : Int) := by
  rw [IntKind.wrap_u64]
  have e1 : ((b.toNat : Int) * 2 ^ j) % 18446744073709551616 = ((b.toNat * 2 ^ j % 18446744073709551616 : Nat) : Int) := by simp
  rw [e1, u64_or_nat _ _ hx (Nat.mod_lt _ (by decide))]
  have e2 := bit_shl b j hj
  rw [show (18446744073709551616 : Nat) = 2 ^ 64 from rfl, e2]

theorem int_eq {k : IntKind} {a b : Int} (h : a = b) : Value.int k a = .int k b := by rw [h]
theorem bitAt_as (h l i B : Nat) (hB : Hid (B = (bt h l i).toNat)) (w : World) (hh : h < 18446744073709551616) (hl : l < 18446744073709551616) (hi : i < 128) :
    Calls Try.prog 6 #[.int .u64 h, .int .u64 l, .int .i64 i] w fun e w' => e = .returned (.int .u64 (B : Nat)) ∧ w' = w := by
  rw [hB.out]; exact bitAt_any h l i w hh hl hi

set_option maxHeartbeats 1000000 in
set_option maxRecDepth 100000 in
theorem walk_in (h l r : Nat) (w : World) (hh : h < 18446744073709551616) (hl : l < 18446744073709551616) (hr : r < 128) :
    Calls Try.prog 3 #[.int .u64 h, .int .u64 l, .int .i64 r] w fun e w' => e = .returned (.bool true) ∧ Below w.heap.size w w' := by
  go_enter Try.func3, Try.ntmps3
  go_wp2_with fail
  refine (zz_any h l r _ hh hl hr).mono ?_
  rintro e w1 ⟨rfl, hb1⟩
  go_wp2_with fail
  go_loop [9, 10, 11] (fun a b i => ∃ k wh wl : Nat, k ≤ 128 ∧ i = .int .i64 k ∧ a = .int .u64 wh ∧ b = .int .u64 wl ∧ Want h l r k wh wl) (fun _ _ i => 128 - (intOf i).toNat)
  case atStart => exact ⟨0, 0, 0, by omega, rfl, rfl, rfl, want_zero h l r⟩
  case round =>
    obtain ⟨k, wh, wl, hk, rfl, rfl, rfl, hw⟩ := hrel
    by_cases hlt : k < 128
    · have HW : Hid (Want h l r k wh wl) := hw
      clear hw
      obtain ⟨B, hB⟩ : ∃ B : Nat, Hid (B = (bt h l k).toNat) := ⟨_, rfl⟩
      go_wp2_with fail
      refine (bitAt_as h l k B hB _ hh hl hlt).mono ?_
      rintro e w' ⟨rfl, hw'⟩
      subst hw'
      go_wp2_with fail
      · have hj : (64 : Int) ≤ ((k : Int) + (r : Int)) % 128 := by assumption
        go_round
        case rel => exact ⟨k + 1, _, _, by omega, by go_num, int_eq (by rw [hB.out]; exact put_form wh (bt h l k) _ HW.out.1 (by omega)), rfl, want_hi h l r k wh wl hr hlt (by omega) HW.out⟩
        case measure => simp [intOf]; omega
      · have hj : ((k : Int) + (r : Int)) % 128 < 64 := by assumption
        go_round
        case rel => exact ⟨k + 1, _, _, by omega, by go_num, rfl, int_eq (by rw [hB.out]; exact put_form wl (bt h l k) _ HW.out.2.1 (by omega)), want_lo h l r k wh wl hr hlt (by omega) HW.out⟩
        case measure => simp [intOf]; omega
    · obtain rfl : k = 128 := by omega
      obtain ⟨e1, e2⟩ := want_end h l r wh wl hh hl hr hw
      go_wp2
      go_ret
      exact ⟨rfl, hb1⟩

theorem walk (a0 : Int) (a1 : Int) (a2 : Int) (w0 : (Lit.int .u64 a0).wf = true) (w1 : (Lit.int .u64 a1).wf = true) (w2 : (Lit.int .i64 a2).wf = true) (w : World) :
    Calls Try.prog 3 #[.int .u64 a0, .int .u64 a1, .int .i64 a2] w fun e w' => e = .returned (.bool true) ∧ Below w.heap.size w w' := by
  have b0 := bounds_u64 w0
  have b1 := bounds_u64 w1
  clear w0 w1 w2
  by_cases c2 : a2 < 0
  · go_enter Try.func3, Try.ntmps3
    go_wp2
    go_ret
    exact ⟨rfl, Below.refl _ _⟩
  by_cases d2 : 127 < a2
  · go_enter Try.func3, Try.ntmps3
    go_wp2
    go_ret
    exact ⟨rfl, Below.refl _ _⟩
  obtain ⟨h, rfl⟩ := nat_of b0.1
  obtain ⟨l, rfl⟩ := nat_of b1.1
  obtain ⟨r, rfl⟩ := nat_of (x := a2) (by omega)
  exact walk_in h l r w (by omega) (by omega) (by omega)

/-! ### THE ROW's STEP: WRITTEN OUT: LEAVE IT -/
set_option maxRecDepth 100000 in
theorem lifted (os : Os) (started : os.Started) (H : Type) (enc : TypeId × Value → H) :
    ReturnsInHanded {} Try.checked os 3 .any (Rows.fnRotateMatchesBitModelSpec.pre6 enc Try.prog Try.f3 Rows.fnRotateMatchesBitModelRow.domain false) (Rows.fnRotateMatchesBitModelSpec.post enc Try.prog Try.f3 false true false false) := by
  refine returnsInHanded_of_change (C := Try.checked) own started (by kernel_rfl) Try.func3
    (ChangeSpec.witness6 (enc := enc) (C := Try.checked) false ⟨#[], #[.int .u64 0, .int .u64 0, .int .i64 0], []⟩ 8 (by kernel_rfl) (by kernel_rfl) (by kernel_rfl) (by kernel_rfl)) ?_
  intro W base args ds gs before hval0 hW hcnd _
  have hval : ∀ (j : Nat) t v, Try.f3.params[j]? = some t → args[j]? = some v → Value.okWide Try.prog W .any base t v := hval0
  have hW' := hW
  obtain ⟨p, q, hA0, hV, rfl, hfz, hnd⟩ := hW
  have hA : DataW.TrodAll enc Try.prog W 0 (fun _ => true) true Try.f3.params.toList args.toList ds p := hA0
  rw [Try.params3] at hA hval
  obtain ⟨v0, vs0, d0, ds0, p0, q0, hargs, rfl, rfl, h0, r0⟩ := trodAll_cons hA
  obtain ⟨v1, vs1, d1, ds1, p1, q1, rfl, rfl, rfl, h1, r1⟩ := trodAll_cons r0
  obtain ⟨v2, vs2, d2, ds2, p2, q2, rfl, rfl, rfl, h2, r2⟩ := trodAll_cons r1
  obtain ⟨rfl, rfl, rfl⟩ := trodAll_nil r2
  obtain rfl : args = #[v0, v1, v2] := by cases args; simp_all
  obtain ⟨rfl, rfl⟩ := trodVars_none hV
  obtain ⟨a0, rfl, rfl, rfl, w0⟩ := open_int Try.underlying22 (hval 0 22 v0 rfl rfl) h0
  obtain ⟨a1, rfl, rfl, rfl, w1⟩ := open_int Try.underlying22 (hval 1 22 v1 rfl rfl) h1
  obtain ⟨a2, rfl, rfl, rfl, w2⟩ := open_int Try.underlying3 (hval 2 3 v2 rfl rfl) h2
  clear hA0 hval0
  simp only [List.append_nil] at hW'
  refine (walk a0 a1 a2 w0 w1 w2 W).mono fun e W' ⟨he, bel⟩ => ?_
  subst he
  exact ⟨_, rfl, _, _, _, [], _, [], hW', trodAll_mk1 (shut_bool Try.underlying4 _), (trodAll_cons_mk (shut_int Try.underlying22 w0) (trodAll_cons_mk (shut_int Try.underlying22 w1) (trodAll_cons_mk (shut_int Try.underlying3 w2) trodAll_mk0))), rfl, bel.frame _, fun h => by cases h⟩

theorem over : Rows.fnRotateMatchesBitModelRow.holds Try.pinned (OpenSpec.ofChange Rows.fnRotateMatchesBitModelSpec) :=
  OpenClaim.holds_of_wide 3 Try.f3 rfl rfl rfl rfl rfl rfl rfl ⟨rfl, rfl, rfl, rfl, rfl⟩ rfl rfl rfl rfl rfl (by kernel_rfl) Try.func3 (by kernel_rfl)
    (of_decide_eq_true (by kernel_rfl)) (by unfold Func.isWrapper; first | (rw [if_pos (by decide +kernel)]; kernel_rfl) | (rw [if_neg (by decide +kernel)]; exact ⟨rfl, rfl⟩))
    (fun os started H enc _ => lifted os started H enc)

/-- ████ THE STATEMENT ████ -/
theorem proved : Rows.FnRotateMatchesBitModelSaid :=
  over
#print axioms proved
end Go.Proofs.Qxb6602914a.fnRotateMatchesBitModel
