import Derived.Test.Qxb6603058aZz
import Derived.WalkKit
import Derived.ProofKit
import Derived.OpenShut
import Derived.ShutString
import Derived.ChangeOld
import Derived.Below
import Derived.Deep.QuietTactic
import Derived.BigQuiet
namespace Go.Proofs.Qxb6603058a.fnEditDistanceBounds
open Go.ChangeShapes Go.WideShapes Go.ChangeAt Go.RowKit
open Go.ChangeMaps (open_string shut_string)
set_option linter.unusedVariables false      -- a walk need not use every 'w<i>' (that an integer argument fits its kind)

theorem own : ownKnob Try.prog.godebug = none := by kernel_rfl

/-! ### The walk -/
theorem zz_r (a : ByteArray) (w : World) (ha : a.size ≤ 1024) :
    Calls Try.prog 8 #[.string a, .string ⟨#[]⟩] w fun e w' => e = .returned (.int .i64 (a.size : Nat)) ∧ Below w.heap.size w w' := by
  have h := zz_any a ⟨#[]⟩ w (by omega) (by decide)
  rw [dist_empty_r] at h; exact h
theorem zz_l (b : ByteArray) (w : World) (hb : b.size ≤ 1024) :
    Calls Try.prog 8 #[.string ⟨#[]⟩, .string b] w fun e w' => e = .returned (.int .i64 (b.size : Nat)) ∧ Below w.heap.size w w' := by
  have h := zz_any ⟨#[]⟩ b w (by decide) (by omega)
  rw [dist_empty_l] at h; exact h
theorem same_test {a b : ByteArray} {d : Nat} (h : d = 0 ↔ a = b) : (((d : Int) == 0) == (a.toList == b.toList)) = true := by
  by_cases c : a = b
  · have := h.2 c; subst c; simp [this]
  · have h1 : ¬ d = 0 := fun e => c (h.1 e)
    have h2 : ¬ a.toList = b.toList := fun e => c (by rw [ByteArray.toList_eq, ByteArray.toList_eq] at e; exact ByteArray.ext (Array.toList_inj.1 e))
    have e1 : ((d : Int) == 0) = false := by simp; omega
    have e2 : (a.toList == b.toList) = false := beq_eq_false_iff_ne.2 h2
    rw [e1, e2]; rfl
set_option maxHeartbeats 1000000 in
set_option maxRecDepth 100000 in
theorem walk_long (a b : ByteArray) (w : World) (ha : a.size ≤ maxLen) (hb : b.size ≤ maxLen) (h : 1024 < a.size ∨ 1024 < b.size) :
    Calls Try.prog 4 #[.string a, .string b] w fun e w' => e = .returned (.bool true) ∧ Below w.heap.size w w' := by
  by_cases h1 : 1024 < a.size
  · go_enter Try.func4, Try.ntmps4
    go_wp2_with fail
    refine (size2 a b _ ha hb).mono ?_
    rintro e w1 ⟨⟨B, rfl⟩, hw⟩
    subst hw
    cases B
    all_goals
      go_wp2
      go_ret
      exact ⟨rfl, Below.refl _ _⟩
  · have h2 : 1024 < b.size := by omega
    go_enter Try.func4, Try.ntmps4
    go_wp2_with fail
    refine (size2 a b _ ha hb).mono ?_
    rintro e w1 ⟨⟨B, rfl⟩, hw⟩
    subst hw
    cases B
    all_goals
      go_wp2
      go_ret
      exact ⟨rfl, Below.refl _ _⟩

set_option maxHeartbeats 1000000 in
set_option maxRecDepth 100000 in
theorem walk_short (a b : ByteArray) (w : World) (ha : a.size ≤ 1024) (hb : b.size ≤ 1024) :
    Calls Try.prog 4 #[.string a, .string b] w fun e w' => e = .returned (.bool true) ∧ Below w.heap.size w w' := by
  have hd := dist_bounds a b
  have hz := dist_zero_iff a b
  have HH : Hid (a.size = b.size → dist a b ≤ ham (bat a) (bat b) a.size) := dist_ham
  obtain ⟨d, hd0⟩ : ∃ d, Hid (d = dist a b) := ⟨_, rfl⟩
  rw [← hd0.out] at hd hz HH
  have cz := fun w => zz_any a b w (by omega) (by omega)
  rw [← hd0.out] at cz
  have C : Hid (∀ w, Calls Try.prog 8 #[.string a, .string b] w fun e w' => e = .returned (.int .i64 (d : Nat)) ∧ Below w.heap.size w w') := cz
  clear cz
  have d1 := hd.1
  have d2 := hd.2.1
  have d3 := hd.2.2
  clear hd
  have ht := same_test hz
  clear hz
  by_cases hlt : a.size < b.size
  · have hne : ((a.size : Int) == (b.size : Int)) = false := by simp; omega
    go_enter Try.func4, Try.ntmps4
    go_wp2_with fail
    refine (size2_small a b _ ha hb).mono ?_
    rintro e w1 ⟨rfl, hw⟩
    subst hw
    go_wp2_with fail
    refine (C.out _).mono ?_
    rintro e w2 ⟨rfl, hb2⟩
    go_wp2_with fail
    refine (zz_r a _ ha).mono ?_
    rintro e w3 ⟨rfl, hb3⟩
    go_wp2_with fail
    refine (zz_l b _ hb).mono ?_
    rintro e w4 ⟨rfl, hb4⟩
    go_wp2
    go_ret
    exact ⟨rfl, (hb2.trans (hb3.mono hb2.size)).trans (hb4.mono (Nat.le_trans hb2.size hb3.size))⟩
  by_cases hgt : b.size < a.size
  · have hne : ((a.size : Int) == (b.size : Int)) = false := by simp; omega
    go_enter Try.func4, Try.ntmps4
    go_wp2_with fail
    refine (size2_small a b _ ha hb).mono ?_
    rintro e w1 ⟨rfl, hw⟩
    subst hw
    go_wp2_with fail
    refine (C.out _).mono ?_
    rintro e w2 ⟨rfl, hb2⟩
    go_wp2_with fail
    refine (zz_r a _ ha).mono ?_
    rintro e w3 ⟨rfl, hb3⟩
    go_wp2_with fail
    refine (zz_l b _ hb).mono ?_
    rintro e w4 ⟨rfl, hb4⟩
    go_wp2
    go_ret
    exact ⟨rfl, (hb2.trans (hb3.mono hb2.size)).trans (hb4.mono (Nat.le_trans hb2.size hb3.size))⟩
  have he : Hid (a.size = b.size) := by unfold Hid; omega
  have hh := HH.out he.out
  have HH2 : Hid (d ≤ ham (bat a) (bat b) a.size) := hh
  have hne : ((a.size : Int) == (b.size : Int)) = true := by simp; omega
  clear hh HH
  go_enter Try.func4, Try.ntmps4
  go_wp2_with fail
  refine (size2_small a b _ ha hb).mono ?_
  rintro e w1 ⟨rfl, hw⟩
  subst hw
  go_wp2_with fail
  refine (C.out _).mono ?_
  rintro e w2 ⟨rfl, hb2⟩
  go_wp2_with fail
  go_loopw [10, 11] (fun x i wi => ∃ k : Nat, k ≤ a.size ∧ i = .int .i64 k ∧ x = .int .i64 (ham (bat a) (bat b) k : Nat) ∧ Below w1.heap.size w1 wi) (fun _ i _ => a.size - (intOf i).toNat)
  case atStart => exact ⟨0, by omega, rfl, rfl, hb2⟩
  case round =>
    clear hb2
    obtain ⟨k, hk, rfl, rfl, hb2⟩ := hrel
    have hm := ham_le (bat a) (bat b) k
    by_cases hka : k < a.size
    · have hkb : k < b.size := by omega
      have ia : (k : Int) < (a.size : Int) := by omega
      have ib : (k : Int) < (b.size : Int) := by omega
      have HS : Hid (ham (bat a) (bat b) (k + 1) = ham (bat a) (bat b) k + if bat a k = bat b k then 0 else 1) := rfl
      by_cases hE : bat a k = bat b k
      · have hn := bne_no (a := a) (b := b) hka hkb hE
        have HE : Hid (bat a k = bat b k) := hE
        clear hE
        go_wp2
        go_quiet (fail)
        go_wp2
        go_roundw
        case rel => exact ⟨k + 1, by omega, by go_num, by rw [HS.out, if_pos HE.out]; go_num, below_drewN hb2⟩
        case measure => simp [intOf]; omega
      · have hn := bne_yes (a := a) (b := b) hka hkb hE
        have HE : Hid (¬ bat a k = bat b k) := hE
        clear hE
        go_wp2
        go_quiet (fail)
        go_wp2
        go_roundw
        case rel => exact ⟨k + 1, by omega, by go_num, by rw [HS.out, if_neg HE.out]; go_num, below_drewN hb2⟩
        case measure => simp [intOf]; omega
    · have hkk : k = a.size := by omega
      subst hkk
      have hdl := HH2.out
      go_wp2_with fail
      refine (zz_r a _ ha).mono ?_
      rintro e w3 ⟨rfl, hb3⟩
      go_wp2_with fail
      refine (zz_l b _ hb).mono ?_
      rintro e w4 ⟨rfl, hb4⟩
      go_wp2
      go_ret
      exact ⟨rfl, (hb2.trans (hb3.mono hb2.size)).trans (hb4.mono (Nat.le_trans hb2.size hb3.size))⟩

theorem walk (a0 : ByteArray) (a1 : ByteArray) (w0 : a0.size ≤ maxLen) (w1 : a1.size ≤ maxLen) (w : World) :
    Calls Try.prog 4 #[.string a0, .string a1] w fun e w' => e = .returned (.bool true) ∧ Below w.heap.size w w' := by
  by_cases h : 1024 < a0.size ∨ 1024 < a1.size
  · exact walk_long a0 a1 w w0 w1 h
  · exact walk_short a0 a1 w (by omega) (by omega)

/-! ### THE ROW's STEP: WRITTEN OUT: LEAVE IT -/
set_option maxRecDepth 100000 in
theorem lifted (os : Os) (started : os.Started) (H : Type) (enc : TypeId × Value → H) :
    ReturnsInHanded {} Try.checked os 4 .any (Rows.fnEditDistanceBoundsSpec.pre6 enc Try.prog Try.f4 Rows.fnEditDistanceBoundsRow.domain false) (Rows.fnEditDistanceBoundsSpec.post enc Try.prog Try.f4 false true false false) := by
  refine returnsInHanded_of_change (C := Try.checked) own started (by kernel_rfl) Try.func4
    (ChangeSpec.witness6 (enc := enc) (C := Try.checked) false ⟨#[], #[.string ByteArray.empty, .string ByteArray.empty], []⟩ 8 (by kernel_rfl) (by kernel_rfl) (by kernel_rfl) (by kernel_rfl)) ?_
  intro W base args ds gs before hval0 hW hcnd _
  have hval : ∀ (j : Nat) t v, Try.f4.params[j]? = some t → args[j]? = some v → Value.okWide Try.prog W .any base t v := hval0
  have hW' := hW
  obtain ⟨p, q, hA0, hV, rfl, hfz, hnd⟩ := hW
  have hA : DataW.TrodAll enc Try.prog W 0 (fun _ => true) true Try.f4.params.toList args.toList ds p := hA0
  rw [Try.params4] at hA hval
  obtain ⟨v0, vs0, d0, ds0, p0, q0, hargs, rfl, rfl, h0, r0⟩ := trodAll_cons hA
  obtain ⟨v1, vs1, d1, ds1, p1, q1, rfl, rfl, rfl, h1, r1⟩ := trodAll_cons r0
  obtain ⟨rfl, rfl, rfl⟩ := trodAll_nil r1
  obtain rfl : args = #[v0, v1] := by cases args; simp_all
  obtain ⟨rfl, rfl⟩ := trodVars_none hV
  obtain ⟨a0, rfl, rfl, rfl, w0⟩ := open_string Try.underlying9 (hval 0 9 v0 rfl rfl) h0
  obtain ⟨a1, rfl, rfl, rfl, w1⟩ := open_string Try.underlying9 (hval 1 9 v1 rfl rfl) h1
  clear hA0 hval0
  simp only [List.append_nil] at hW'
  refine (walk a0 a1 w0 w1 W).mono fun e W' ⟨he, bel⟩ => ?_
  subst he
  exact ⟨_, rfl, _, _, _, [], _, [], hW', trodAll_mk1 (shut_bool Try.underlying4 _), (trodAll_cons_mk (shut_string Try.underlying9 w0) (trodAll_cons_mk (shut_string Try.underlying9 w1) trodAll_mk0)), rfl, bel.frame _, fun h => by cases h⟩

theorem over : Rows.fnEditDistanceBoundsRow.holds Try.pinned (OpenSpec.ofChange Rows.fnEditDistanceBoundsSpec) :=
  OpenClaim.holds_of_wide 4 Try.f4 rfl rfl rfl rfl rfl rfl rfl ⟨rfl, rfl, rfl, rfl, rfl⟩ rfl rfl rfl rfl rfl (by kernel_rfl) Try.func4 (by kernel_rfl)
    (of_decide_eq_true (by kernel_rfl)) (by unfold Func.isWrapper; first | (rw [if_pos (by decide +kernel)]; kernel_rfl) | (rw [if_neg (by decide +kernel)]; exact ⟨rfl, rfl⟩))
    (fun os started H enc _ => lifted os started H enc)

/-- ████ THE STATEMENT ████ -/
theorem proved : Rows.FnEditDistanceBoundsSaid :=
  over
#print axioms proved
end Go.Proofs.Qxb6603058a.fnEditDistanceBounds
