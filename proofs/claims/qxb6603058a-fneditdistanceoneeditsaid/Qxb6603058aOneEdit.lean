import Derived.Test.Qxb6603058aEdits
import Derived.WalkKit
import Derived.ProofKit
import Derived.OpenShut
import Derived.ShutString
import Derived.ChangeOld
import Derived.Below
import Derived.Deep.QuietTactic
import Derived.BigQuiet
import Derived.WalkSpells
namespace Go.Proofs.Qxb6603058a.fnEditDistanceOneEdit
open Go.ChangeShapes Go.WideShapes Go.ChangeAt Go.RowKit
open Go.ChangeMaps (open_string shut_string)
set_option linter.unusedVariables false      -- a walk need not use every 'w<i>' (that an integer argument fits its kind)

theorem own : ownKnob Try.prog.godebug = none := by kernel_rfl

/-! ### The walk -/
theorem byte_ne {a : ByteArray} {i c : Nat} (hi : i < a.size) (h : c ≠ bat a i) : ((c : Int) != ((a[i]'hi).toNat : Int)) = true := by
  rw [bat_at hi] at h; simp; omega
theorem byte_eq {a : ByteArray} {i c : Nat} (hi : i < a.size) (h : c = bat a i) : ((c : Int) != ((a[i]'hi).toNat : Int)) = false := by
  rw [bat_at hi] at h; simp [h]

set_option maxHeartbeats 2000000 in
set_option maxRecDepth 100000 in
theorem walk_end (a : ByteArray) (i : Nat) (c : Nat) (w : World) (ha : a.size ≤ 1024) (he : i = a.size) (hc : c < 256) :
    Calls Try.prog 5 #[.string a, .int .i64 i, .int .u8 c] w fun e w' => e = .returned (.bool true) ∧ Below w.heap.size w w' := by
  have hi : i ≤ a.size := by omega
  have hge : (a.size : Int) ≤ (i : Int) := by omega
  clear he
  have g1 : decide ((i : Int) + 1 < (a.size : Int)) = false := decide_eq_false (by omega)
  have hi' : (i : Int) ≤ (a.size : Int) := by omega
  have hone := conv_one c w
  have os := one_size c
  have OB : Hid (bat (strOfNums [(c : Int)]) 0 = c) := one_bat c hc
  generalize strOfNums [(c : Int)] = o at *
  have DI : Hid (dist a (insS a o i) = 1) := dist_ins os hi
  have DI' : Hid (dist (insS a o i) a = 1) := dist_ins' os hi
  have SI : (insS a o i).size ≤ 2000 := by rw [insS_size os hi]; omega
  obtain ⟨S, hS⟩ : ∃ S, a.extract 0 i ++ o ++ a.extract i a.size = S := ⟨_, rfl⟩
  have eS : insS a o i = S := hS
  rw [eS] at DI DI' SI
  clear eS
  go_enter Try.func5, Try.ntmps5
  go_wp2_with fail
  refine (size1_small a _ _ _ ha).mono ?_
  rintro e w1 ⟨rfl, hw⟩
  subst hw
  go_wp2_with fail
  go_quiet (fail)
  go_wp2_with fail
  have k1 : Below w1.heap.size w1 ((w1.alloc (.cells #[.int .u8 (c : Int)] 5)).drewN nq) := below_drewN ((Below.refl _ _).alloc (Nat.le_refl _) _)
  generalize (w1.alloc (.cells #[.int .u8 (c : Int)] 5)).drewN nq = wa at k1 ⊢
  refine (zz_one a S _ DI (by omega) SI).mono ?_
  rintro e wb ⟨rfl, h2⟩
  have k2 := k1.trans (h2.mono k1.size)
  clear k1 h2
  go_wp2_with fail
  refine (zz_one S a _ DI' SI (by omega)).mono ?_
  rintro e wc ⟨rfl, h3⟩
  have k3 := k2.trans (h3.mono k2.size)
  clear k2 h3 hone hS
  go_wp2_with fail
  go_quiet (fail)
  go_wp2
  go_ret
  exact ⟨rfl, below_drewN k3⟩

set_option maxHeartbeats 2000000 in
set_option maxRecDepth 100000 in
theorem walk_same (a : ByteArray) (i : Nat) (c : Nat) (w : World) (ha : a.size ≤ 1024) (hlt : i < a.size) (hc : c < 256) (hca : c = bat a i) :
    Calls Try.prog 5 #[.string a, .int .i64 i, .int .u8 c] w fun e w' => e = .returned (.bool true) ∧ Below w.heap.size w w' := by
  have hi : i ≤ a.size := by omega
  have tc := byte_eq hlt hca
  have HC : Hid (c = bat a i) := hca
  clear hca
  have hi' : (i : Int) ≤ (a.size : Int) := by omega
  have hone := conv_one c w
  have os := one_size c
  have OB : Hid (bat (strOfNums [(c : Int)]) 0 = c) := one_bat c hc
  generalize strOfNums [(c : Int)] = o at *
  have DI : Hid (dist a (insS a o i) = 1) := dist_ins os hi
  have DI' : Hid (dist (insS a o i) a = 1) := dist_ins' os hi
  have SI : (insS a o i).size ≤ 2000 := by rw [insS_size os hi]; omega
  obtain ⟨S, hS⟩ : ∃ S, a.extract 0 i ++ o ++ a.extract i a.size = S := ⟨_, rfl⟩
  have eS : insS a o i = S := hS
  rw [eS] at DI DI' SI
  clear eS
  have il : (i : Int) < (a.size : Int) := by omega
  have il1 : (i : Int) + 1 ≤ (a.size : Int) := by omega
  have DD : Hid (dist a (delS a i) = 1) := dist_del hlt
  have DD' : Hid (dist (delS a i) a = 1) := dist_del' hlt
  have TI : (delS a i).size ≤ 2000 := by have := delS_size hlt; omega
  obtain ⟨T, hT⟩ : ∃ T, a.extract 0 i ++ a.extract (i + 1) a.size = T := ⟨_, rfl⟩
  have eT : delS a i = T := hT
  rw [eT] at DD DD' TI
  clear eT
  go_enter Try.func5, Try.ntmps5
  go_wp2_with fail
  refine (size1_small a _ _ _ ha).mono ?_
  rintro e w1 ⟨rfl, hw⟩
  subst hw
  go_wp2_with fail
  go_quiet (fail)
  go_wp2_with fail
  have k1 : Below w1.heap.size w1 ((w1.alloc (.cells #[.int .u8 (c : Int)] 5)).drewN nq) := below_drewN ((Below.refl _ _).alloc (Nat.le_refl _) _)
  generalize (w1.alloc (.cells #[.int .u8 (c : Int)] 5)).drewN nq = wa at k1 ⊢
  refine (zz_one a S _ DI (by omega) SI).mono ?_
  rintro e wb ⟨rfl, h2⟩
  have k2 := k1.trans (h2.mono k1.size)
  clear k1 h2
  go_wp2_with fail
  refine (zz_one S a _ DI' SI (by omega)).mono ?_
  rintro e wc ⟨rfl, h3⟩
  have k3 := k2.trans (h3.mono k2.size)
  clear k2 h3 hone hS
  go_wp2_with fail
  go_quiet (fail)
  go_wp2_with fail
  have k4 := below_drewN (n := nq) k3
  clear k3
  generalize wc.drewN nq = wc' at k4 ⊢
  refine (zz_one a T _ DD (by omega) TI).mono ?_
  rintro e wd ⟨rfl, h5⟩
  have k5 := k4.trans (h5.mono k4.size)
  clear k4 h5
  go_wp2_with fail
  refine (zz_one T a _ DD' TI (by omega)).mono ?_
  rintro e we ⟨rfl, h6⟩
  have k6 := k5.trans (h6.mono k5.size)
  clear k5 h6 hT
  by_cases h1 : i + 1 < a.size
  · have g1 : (i : Int) + 1 < (a.size : Int) := by omega
    have z1 : (0 : Int) ≤ (i : Int) + 1 := by omega
    by_cases h2 : bat a i = bat a (i + 1)
    · have t1 := bne_no (a := a) (b := a) hlt h1 h2
      have H2 : Hid (bat a i = bat a (i + 1)) := h2
      clear h2
      go_wp2_with fail
      go_quiet (fail)
      go_wp2
      go_ret
      exact ⟨rfl, below_drewN k6⟩
    · have t1 := bne_yes (a := a) (b := a) hlt h1 h2
      have DW : Hid (dist a ⟨(swapL a i).toArray⟩ = 1) := dist_swap h1 h2
      have WI : (ByteArray.mk (swapL a i).toArray).size ≤ 2000 := by
        have e1 : (ByteArray.mk (swapL a i).toArray).size = a.size := by rw [← swapL_length a i]; exact List.size_toArray
        omega
      have kb := conv_bytes a
      have kc := fun (cp cap : Nat) (w : World) => conv_back a cp i cap h1 w
      generalize (ByteArray.mk (swapL a i).toArray) = V at *
      have cA := fun (cp : Nat) (w : World) => brow_cell a cp i hlt w
      have cB := fun (cp : Nat) (w : World) => brow_cell a cp (i + 1) h1 w
      have fA := fun (cp : Nat) (w : World) => brow_frozen a cp i hlt w
      have fB := fun (cp : Nat) (w : World) => brow_frozen a cp (i + 1) h1 w
      clear h2
      go_wp2_with fail
      go_quiet (fail)
      have k9 := below_drewN (n := nq) k6
      clear k6
      generalize we.drewN nq = wy at k9 ⊢
      go_wp2_with fail
      have k10 := (((k9.alloc k9.size (brow a (grownCap wy a.size 0 5))).setCell (p := ⟨wy.heap.size, i, none⟩) k9.size (.int .u8 ((a[i + 1]'h1).toNat : Int))).setCell (p := ⟨wy.heap.size, i + 1, none⟩) k9.size (.int .u8 ((a[i]'hlt).toNat : Int))).drew
      clear kb kc cA cB fA fB
      generalize (((wy.alloc (brow a (grownCap wy a.size 0 5))).setCell ⟨wy.heap.size, i, none⟩ (.int .u8 ((a[i + 1]'h1).toNat : Int))).setCell ⟨wy.heap.size, i + 1, none⟩ (.int .u8 ((a[i]'hlt).toNat : Int))).drew = wv at k10 ⊢
      refine (zz_one a V _ DW (by omega) WI).mono ?_
      rintro e wu ⟨rfl, h11⟩
      have k11 := k10.trans (h11.mono k10.size)
      clear k10 h11
      go_wp2
      go_ret
      exact ⟨rfl, k11⟩
  · have g1 : decide ((i : Int) + 1 < (a.size : Int)) = false := decide_eq_false (by omega)
    go_wp2_with fail
    go_quiet (fail)
    go_wp2
    go_ret
    exact ⟨rfl, below_drewN k6⟩

set_option maxHeartbeats 2000000 in
set_option maxRecDepth 100000 in
theorem walk_other (a : ByteArray) (i : Nat) (c : Nat) (w : World) (ha : a.size ≤ 1024) (hlt : i < a.size) (hc : c < 256) (hca : c ≠ bat a i) :
    Calls Try.prog 5 #[.string a, .int .i64 i, .int .u8 c] w fun e w' => e = .returned (.bool true) ∧ Below w.heap.size w w' := by
  have hi : i ≤ a.size := by omega
  have hi' : (i : Int) ≤ (a.size : Int) := by omega
  have hone := conv_one c w
  have os := one_size c
  have OB : Hid (bat (strOfNums [(c : Int)]) 0 = c) := one_bat c hc
  generalize strOfNums [(c : Int)] = o at *
  have DI : Hid (dist a (insS a o i) = 1) := dist_ins os hi
  have DI' : Hid (dist (insS a o i) a = 1) := dist_ins' os hi
  have SI : (insS a o i).size ≤ 2000 := by rw [insS_size os hi]; omega
  obtain ⟨S, hS⟩ : ∃ S, a.extract 0 i ++ o ++ a.extract i a.size = S := ⟨_, rfl⟩
  have eS : insS a o i = S := hS
  rw [eS] at DI DI' SI
  clear eS
  have DU : Hid (dist a (subS a o i) = 1) := dist_sub os hlt (by rw [OB.out]; exact hca)
  have UI : (subS a o i).size ≤ 2000 := by rw [subS_size os hlt]; omega
  obtain ⟨U, hU⟩ : ∃ U, a.extract 0 i ++ o ++ a.extract (i + 1) a.size = U := ⟨_, rfl⟩
  have eU : subS a o i = U := hU
  rw [eU] at DU UI
  clear eU
  have tc := byte_ne hlt hca
  clear hca
  have il : (i : Int) < (a.size : Int) := by omega
  have il1 : (i : Int) + 1 ≤ (a.size : Int) := by omega
  have DD : Hid (dist a (delS a i) = 1) := dist_del hlt
  have DD' : Hid (dist (delS a i) a = 1) := dist_del' hlt
  have TI : (delS a i).size ≤ 2000 := by have := delS_size hlt; omega
  obtain ⟨T, hT⟩ : ∃ T, a.extract 0 i ++ a.extract (i + 1) a.size = T := ⟨_, rfl⟩
  have eT : delS a i = T := hT
  rw [eT] at DD DD' TI
  clear eT
  go_enter Try.func5, Try.ntmps5
  go_wp2_with fail
  refine (size1_small a _ _ _ ha).mono ?_
  rintro e w1 ⟨rfl, hw⟩
  subst hw
  go_wp2_with fail
  go_quiet (fail)
  go_wp2_with fail
  have k1 : Below w1.heap.size w1 ((w1.alloc (.cells #[.int .u8 (c : Int)] 5)).drewN nq) := below_drewN ((Below.refl _ _).alloc (Nat.le_refl _) _)
  generalize (w1.alloc (.cells #[.int .u8 (c : Int)] 5)).drewN nq = wa at k1 ⊢
  refine (zz_one a S _ DI (by omega) SI).mono ?_
  rintro e wb ⟨rfl, h2⟩
  have k2 := k1.trans (h2.mono k1.size)
  clear k1 h2
  go_wp2_with fail
  refine (zz_one S a _ DI' SI (by omega)).mono ?_
  rintro e wc ⟨rfl, h3⟩
  have k3 := k2.trans (h3.mono k2.size)
  clear k2 h3 hone hS
  go_wp2_with fail
  go_quiet (fail)
  go_wp2_with fail
  have k4 := below_drewN (n := nq) k3
  clear k3
  generalize wc.drewN nq = wc' at k4 ⊢
  refine (zz_one a T _ DD (by omega) TI).mono ?_
  rintro e wd ⟨rfl, h5⟩
  have k5 := k4.trans (h5.mono k4.size)
  clear k4 h5
  go_wp2_with fail
  refine (zz_one T a _ DD' TI (by omega)).mono ?_
  rintro e we ⟨rfl, h6⟩
  have k6 := k5.trans (h6.mono k5.size)
  clear k5 h6 hT
  go_wp2_with fail
  go_quiet (fail)
  go_wp2_with fail
  have k7 := below_drewN (n := nq) k6
  clear k6
  generalize we.drewN nq = we' at k7 ⊢
  refine (zz_one a U _ DU (by omega) UI).mono ?_
  rintro e wf ⟨rfl, h8⟩
  have k8 := k7.trans (h8.mono k7.size)
  clear k7 h8 hU
  by_cases h1 : i + 1 < a.size
  · have g1 : (i : Int) + 1 < (a.size : Int) := by omega
    have z1 : (0 : Int) ≤ (i : Int) + 1 := by omega
    by_cases h2 : bat a i = bat a (i + 1)
    · have t1 := bne_no (a := a) (b := a) hlt h1 h2
      have H2 : Hid (bat a i = bat a (i + 1)) := h2
      clear h2
      go_wp2_with fail
      go_quiet (fail)
      go_wp2
      go_ret
      exact ⟨rfl, below_drewN k8⟩
    · have t1 := bne_yes (a := a) (b := a) hlt h1 h2
      have DW : Hid (dist a ⟨(swapL a i).toArray⟩ = 1) := dist_swap h1 h2
      have WI : (ByteArray.mk (swapL a i).toArray).size ≤ 2000 := by
        have e1 : (ByteArray.mk (swapL a i).toArray).size = a.size := by rw [← swapL_length a i]; exact List.size_toArray
        omega
      have kb := conv_bytes a
      have kc := fun (cp cap : Nat) (w : World) => conv_back a cp i cap h1 w
      generalize (ByteArray.mk (swapL a i).toArray) = V at *
      have cA := fun (cp : Nat) (w : World) => brow_cell a cp i hlt w
      have cB := fun (cp : Nat) (w : World) => brow_cell a cp (i + 1) h1 w
      have fA := fun (cp : Nat) (w : World) => brow_frozen a cp i hlt w
      have fB := fun (cp : Nat) (w : World) => brow_frozen a cp (i + 1) h1 w
      clear h2
      go_wp2_with fail
      go_quiet (fail)
      have k9 := below_drewN (n := nq) k8
      clear k8
      generalize wf.drewN nq = wy at k9 ⊢
      go_wp2_with fail
      have k10 := (((k9.alloc k9.size (brow a (grownCap wy a.size 0 5))).setCell (p := ⟨wy.heap.size, i, none⟩) k9.size (.int .u8 ((a[i + 1]'h1).toNat : Int))).setCell (p := ⟨wy.heap.size, i + 1, none⟩) k9.size (.int .u8 ((a[i]'hlt).toNat : Int))).drew
      clear kb kc cA cB fA fB
      generalize (((wy.alloc (brow a (grownCap wy a.size 0 5))).setCell ⟨wy.heap.size, i, none⟩ (.int .u8 ((a[i + 1]'h1).toNat : Int))).setCell ⟨wy.heap.size, i + 1, none⟩ (.int .u8 ((a[i]'hlt).toNat : Int))).drew = wv at k10 ⊢
      refine (zz_one a V _ DW (by omega) WI).mono ?_
      rintro e wu ⟨rfl, h11⟩
      have k11 := k10.trans (h11.mono k10.size)
      clear k10 h11
      go_wp2
      go_ret
      exact ⟨rfl, k11⟩
  · have g1 : decide ((i : Int) + 1 < (a.size : Int)) = false := decide_eq_false (by omega)
    go_wp2_with fail
    go_quiet (fail)
    go_wp2
    go_ret
    exact ⟨rfl, below_drewN k8⟩

set_option maxHeartbeats 2000000 in
set_option maxRecDepth 100000 in
theorem walk (a0 : ByteArray) (a1 : Int) (a2 : Int) (w0 : a0.size ≤ maxLen) (w1 : (Lit.int .i64 a1).wf = true) (w2 : (Lit.int .u8 a2).wf = true) (w : World) :
    Calls Try.prog 5 #[.string a0, .int .i64 a1, .int .u8 a2] w fun e w' => e = .returned (.bool true) ∧ Below w.heap.size w w' := by
  have b2 := bounds_u8 w2
  by_cases h : 1024 < a0.size
  · go_enter Try.func5, Try.ntmps5
    go_wp2_with fail
    refine (size1 a0 _ _ _ w0).mono ?_
    rintro e w1 ⟨⟨B, rfl⟩, hw⟩
    subst hw
    cases B
    all_goals
      go_wp2
      go_ret
      exact ⟨rfl, Below.refl _ _⟩
  by_cases h1 : a1 < 0
  · go_enter Try.func5, Try.ntmps5
    go_wp2_with fail
    refine (size1_small a0 _ _ _ (by omega)).mono ?_
    rintro e w1 ⟨rfl, hw⟩
    subst hw
    go_wp2
    go_ret
    exact ⟨rfl, Below.refl _ _⟩
  by_cases h2 : (a0.size : Int) < a1
  · go_enter Try.func5, Try.ntmps5
    go_wp2_with fail
    refine (size1_small a0 _ _ _ (by omega)).mono ?_
    rintro e w1 ⟨rfl, hw⟩
    subst hw
    go_wp2
    go_ret
    exact ⟨rfl, Below.refl _ _⟩
  obtain ⟨i, rfl⟩ : ∃ i : Nat, a1 = i := ⟨a1.toNat, by omega⟩
  obtain ⟨c, rfl⟩ : ∃ c : Nat, a2 = c := ⟨a2.toNat, by omega⟩
  by_cases h3 : i = a0.size
  · exact walk_end a0 i c w (by omega) h3 (by omega)
  by_cases h4 : c = bat a0 i
  · exact walk_same a0 i c w (by omega) (by omega) (by omega) h4
  · exact walk_other a0 i c w (by omega) (by omega) (by omega) h4

/-! ### THE ROW's STEP: WRITTEN OUT: LEAVE IT -/
set_option maxRecDepth 100000 in
theorem lifted (os : Os) (started : os.Started) (H : Type) (enc : TypeId × Value → H) :
    ReturnsInHanded {} Try.checked os 5 .any (Rows.fnEditDistanceOneEditSpec.pre6 enc Try.prog Try.f5 Rows.fnEditDistanceOneEditRow.domain false) (Rows.fnEditDistanceOneEditSpec.post enc Try.prog Try.f5 false true false false) := by
  refine returnsInHanded_of_change (C := Try.checked) own started (by kernel_rfl) Try.func5
    (ChangeSpec.witness6 (enc := enc) (C := Try.checked) false ⟨#[], #[.string ByteArray.empty, .int .i64 0, .int .u8 0], []⟩ 8 (by kernel_rfl) (by kernel_rfl) (by kernel_rfl) (by kernel_rfl)) ?_
  intro W base args ds gs before hval0 hW hcnd _
  have hval : ∀ (j : Nat) t v, Try.f5.params[j]? = some t → args[j]? = some v → Value.okWide Try.prog W .any base t v := hval0
  have hW' := hW
  obtain ⟨p, q, hA0, hV, rfl, hfz, hnd⟩ := hW
  have hA : DataW.TrodAll enc Try.prog W 0 (fun _ => true) true Try.f5.params.toList args.toList ds p := hA0
  rw [Try.params5] at hA hval
  obtain ⟨v0, vs0, d0, ds0, p0, q0, hargs, rfl, rfl, h0, r0⟩ := trodAll_cons hA
  obtain ⟨v1, vs1, d1, ds1, p1, q1, rfl, rfl, rfl, h1, r1⟩ := trodAll_cons r0
  obtain ⟨v2, vs2, d2, ds2, p2, q2, rfl, rfl, rfl, h2, r2⟩ := trodAll_cons r1
  obtain ⟨rfl, rfl, rfl⟩ := trodAll_nil r2
  obtain rfl : args = #[v0, v1, v2] := by cases args; simp_all
  obtain ⟨rfl, rfl⟩ := trodVars_none hV
  obtain ⟨a0, rfl, rfl, rfl, w0⟩ := open_string Try.underlying9 (hval 0 9 v0 rfl rfl) h0
  obtain ⟨a1, rfl, rfl, rfl, w1⟩ := open_int Try.underlying3 (hval 1 3 v1 rfl rfl) h1
  obtain ⟨a2, rfl, rfl, rfl, w2⟩ := open_int Try.underlying5 (hval 2 5 v2 rfl rfl) h2
  clear hA0 hval0
  simp only [List.append_nil] at hW'
  refine (walk a0 a1 a2 w0 w1 w2 W).mono fun e W' ⟨he, bel⟩ => ?_
  subst he
  exact ⟨_, rfl, _, _, _, [], _, [], hW', trodAll_mk1 (shut_bool Try.underlying4 _), (trodAll_cons_mk (shut_string Try.underlying9 w0) (trodAll_cons_mk (shut_int Try.underlying3 w1) (trodAll_cons_mk (shut_int Try.underlying5 w2) trodAll_mk0))), rfl, bel.frame _, fun h => by cases h⟩

theorem over : Rows.fnEditDistanceOneEditRow.holds Try.pinned (OpenSpec.ofChange Rows.fnEditDistanceOneEditSpec) :=
  OpenClaim.holds_of_wide 5 Try.f5 rfl rfl rfl rfl rfl rfl rfl ⟨rfl, rfl, rfl, rfl, rfl⟩ rfl rfl rfl rfl rfl (by kernel_rfl) Try.func5 (by kernel_rfl)
    (of_decide_eq_true (by kernel_rfl)) (by unfold Func.isWrapper; first | (rw [if_pos (by decide +kernel)]; kernel_rfl) | (rw [if_neg (by decide +kernel)]; exact ⟨rfl, rfl⟩))
    (fun os started H enc _ => lifted os started H enc)

/-- ████ THE STATEMENT ████ -/
theorem proved : Rows.FnEditDistanceOneEditSaid :=
  over
#print axioms proved
end Go.Proofs.Qxb6603058a.fnEditDistanceOneEdit
