import Derived.Test.Qxb6603891aWays
import Derived.WalkKit
import Derived.ProofKit
import Derived.OpenShut
import Derived.ShutString
import Derived.ChangeOld
import Derived.Below
namespace Go.Proofs.Qxb6603891a.fnGivingABlockKeepsEarlierSizes
open Go.ChangeShapes Go.WideShapes Go.ChangeAt Go.RowKit
open Go.ChangeMaps (open_string shut_string)
set_option linter.unusedVariables false

theorem own : ownKnob Try.prog.godebug = none := by kernel_rfl
theorem laidOut : laidOutB Try.prog = true := by kernel_rfl

/-! ### The plain laws -/
/-- The ends with one more, e. -/
def ext (Z : Nat → Int) (n : Nat) (e : Int) : Nat → Int := fun i => if i < n then Z i else e
theorem ext_size (Z : Nat → Int) (n : Nat) (e : Int) : sz (ext Z n e) (n + 1) = e := by
  show ext Z n e n = e; unfold ext; rw [if_neg (Nat.lt_irrefl _)]
theorem ext_last (Z : Nat → Int) (n : Nat) (e : Int) (he : -9223372036854775808 ≤ e ∧ e ≤ 9223372036854775807) : bs (ext Z n e) n = wrap64 (e - sz Z n) := by
  cases n with
  | zero => show ext Z 0 e 0 = wrap64 (e - 0); unfold ext wrap64; rw [if_neg (Nat.lt_irrefl _)]; omega
  | succ n =>
    show wrap64 (ext Z (n + 1) e (n + 1) - ext Z (n + 1) e n) = wrap64 (e - Z n)
    unfold ext; rw [if_neg (Nat.lt_irrefl _), if_pos (Nat.lt_succ_self _)]
theorem ext_early (Z : Nat → Int) (n : Nat) (e : Int) {i : Nat} (hi : i < n) : bs (ext Z n e) i = bs Z i := by
  cases i with
  | zero => show ext Z n e 0 = Z 0; unfold ext; rw [if_pos hi]
  | succ i =>
    show wrap64 (ext Z n e (i + 1) - ext Z n e i) = wrap64 (Z (i + 1) - Z i)
    unfold ext; rw [if_pos hi, if_pos (by omega)]
theorem row_ext {w : World} {b n : Nat} {Z : Nat → Int} (e : Int) (h : w.rowIs b 2 (n + 1) (fun i => .int .i64 (if i < n then Z i else 0))) :
    (w.setCell ⟨b, n, none⟩ (.int .i64 e)).rowIs b 2 (n + 1) (fun i => .int .i64 (ext Z n e i)) :=
  (h.set n _).congr fun i hi => by
    unfold ext
    by_cases c : i = n
    · subst c; simp
    · rw [if_neg c, if_pos (show i < n by omega), if_pos (show i < n by omega)]

/-! ### The walk -/
set_option maxHeartbeats 1000000 in
set_option maxRecDepth 100000 in
theorem walk_long (a0 : Option Addr) (n c : Nat) (e0 : Int) (w : World) (h : n ≤ maxLen) (hn : 131072 < n) :
    Calls Try.prog 5 #[.slice a0 n c, .int .i64 e0] w fun e w' => e = .returned (.bool true) ∧ Below w.heap.size w w' := by
  go_enter Try.func5, Try.ntmps5
  go_wp2_with fail
  refine (len12 a0 n c e0 _ h).mono ?_
  rintro e w1 ⟨⟨B, rfl⟩, hw⟩
  subst hw
  cases B
  all_goals
    go_wp2
    go_ret
    exact ⟨rfl, Below.refl _ _⟩

set_option maxHeartbeats 1000000 in
set_option maxRecDepth 100000 in
theorem walk_in (a0 : Option Addr) (n c : Nat) (zs : List Int) (e0 : Int) (w : World) (hR : Hid (IsRow .i64 w a0 n c zs)) (hn : n ≤ 131072) (he : Hid (-9223372036854775808 ≤ e0 ∧ e0 ≤ 9223372036854775807)) :
    Calls Try.prog 5 #[.slice a0 n c, .int .i64 e0] w fun e w' => e = .returned (.bool true) ∧ Below w.heap.size w w' := by
  obtain ⟨Z, hZ⟩ : ∃ Z : Nat → Int, Hid (Z = fun i => zs.getD i 0) := ⟨_, rfl⟩
  have hmk := run_make_row' (P := Try.prog) 22 2 (.int .i64 0) 8 Try.underlying22 Try.info2 rfl .i64 .i64 (n + 1) (by omega) (by omega)
  have ec : ((n + 1 : Nat) : Int) = (n : Int) + 1 := by omega
  rw [ec] at hmk
  clear ec
  go_enter Try.func5, Try.ntmps5
  go_wp2_with fail
  refine (len12_small a0 n c e0 _ hn).mono ?_
  rintro e w1 ⟨rfl, hw⟩
  subst hw
  go_wp2_with fail
  refine (clone_any a0 n c zs _ hR.out hn).mono ?_
  rintro e w2 ⟨ao, rfl, hRd, hb2⟩
  rw [← hZ.out] at hRd
  clear hR
  go_wp2_with fail
  refine (tree_any ao n n w2).mono ?_
  rintro e w3 ⟨rfl, hw3⟩
  have hT := TW.made hRd
  have hb3 := hb2.alloc hb2.size (tw ao n n)
  rw [hw3] at hT hb3
  clear hRd hw3 hb2
  go_wp2_with fail
  go_loopw [8] (fun i wr => ∃ k : Nat, k ≤ n ∧ i = .int .i64 k ∧ wr.rowIs w3.heap.size 2 (n + 1) (fun i => .int .i64 (if i < k then Z i else 0)) ∧ Below w3.heap.size w3 wr) (fun i _ => n - (intOf i).toNat)
  case atStart => exact ⟨0, by omega, rfl, row_zero w3 (n + 1) Z, (Below.refl _ _).alloc (Nat.le_refl _) _⟩
  case round =>
    obtain ⟨k, hk, rfl, hr, hb4⟩ := hrel
    clear hmk
    by_cases hlt : k < n
    · obtain ⟨be, e1, hc⟩ := hT.rd k hlt
      subst e1
      have hbl : be < w3.heap.size := World.block_lt_of_cell? _ _ hc
      have g1 : wr.cell? ⟨be, k, none⟩ = some (.int .i64 (Z k)) := (hb4.cell (p := ⟨be, k, none⟩) hbl).trans hc
      have g2 := hr.cell (show k < n + 1 by omega)
      have g3 := hr.frozen k
      clear hc
      go_wp2
      go_roundw
      case rel => exact ⟨k + 1, by omega, by go_num, row_step hr, hb4.setCell (Nat.le_refl _) _⟩
      case measure => simp [intOf]; omega
    · obtain rfl : k = n := by omega
      have g2 := hr.cell (show k < k + 1 by omega)
      have g3 := hr.frozen k
      have hi1 : (k : Int) < (k : Int) + 1 := by omega
      have hr5 := row_ext e0 hr
      have hb5 := hb4.setCell (p := ⟨w3.heap.size, k, none⟩) (Nat.le_refl _) (.int .i64 e0)
      go_wp2_with fail
      have hT5 := hT.below hb5
      have hR5 := Rd.of_row hr5
      have hbv := hb3.trans (hb5.mono hb3.size)
      clear hr hr5 hb5 hb4 hb3 hT g2 g3 hi1
      generalize wr.setCell ⟨w3.heap.size, k, none⟩ (.int .i64 e0) = wv at hT5 hR5 hbv ⊢
      refine (tree_any _ (k + 1) (k + 1) wv).mono ?_
      rintro e w6 ⟨rfl, hw6⟩
      have hN := TW.made hR5
      have hO := hT5.below ((Below.refl _ _).alloc (Nat.le_refl _) (tw (some ⟨w3.heap.size, 0, none⟩) (k + 1) (k + 1)))
      have hb6 := hbv.alloc hbv.size (tw (some ⟨w3.heap.size, 0, none⟩) (k + 1) (k + 1))
      rw [hw6] at hN hO hb6
      clear hw6 hR5 hT5 hbv
      have XS := ext_size Z k e0
      have XL := ext_last Z k e0 he.out
      have HE : Hid (∀ i, i < k → bs (ext Z k e0) i = bs Z i) := fun i hi => ext_early Z k e0 hi
      go_wp2_with fail
      refine (zzsize_any _ _ k Z _ (by omega) hO).mono ?_
      rintro e w7 ⟨rfl, m7, hw7⟩
      have hO7 := hO.drewN (m := m7)
      have hN7 := hN.drewN (m := m7)
      have hb7 := below_drewN (n := m7) hb6
      rw [← hw7] at hO7 hN7 hb7
      clear hO hN hb6 hw7
      generalize sz Z k = x at *
      go_wp2_with fail
      refine (zzsize_any _ _ (k + 1) (ext Z k e0) _ (by omega) hN7).mono ?_
      rintro e w8 ⟨rfl, m8, hw8⟩
      have hO8 := hO7.drewN (m := m8)
      have hN8 := hN7.drewN (m := m8)
      have hb8 := below_drewN (n := m8) hb7
      rw [← hw8] at hO8 hN8 hb8
      clear hO7 hN7 hb7 hw8
      rw [XS]
      go_wp2_with fail
      refine (zzblock_any _ _ (k + 1) k (ext Z k e0) _ (by omega) (by omega) hN8).mono ?_
      rintro e w9 ⟨rfl, m9, hw9⟩
      have hO9 := hO8.drewN (m := m9)
      have hN9 := hN8.drewN (m := m9)
      have hb9 := below_drewN (n := m9) hb8
      rw [← hw9] at hO9 hN9 hb9
      clear hO8 hN8 hb8 hw9
      rw [XL]
      clear XS XL
      go_wp2_with fail
      go_loopw [11] (fun i wi => ∃ j : Nat, j ≤ k ∧ i = .int .i64 j ∧ TW wi w2.heap.size ao k Z ∧ TW wi wv.heap.size (some ⟨w3.heap.size, 0, none⟩) (k + 1) (ext Z k e0) ∧ Below w1.heap.size w1 wi) (fun i _ => k - (intOf i).toNat)
      case atStart => exact ⟨0, by omega, rfl, hO9, hN9, hb9⟩
      case round =>
        clear hO9 hN9 hb9
        obtain ⟨j, hj, rfl, hO9, hN9, hb9⟩ := hrel
        by_cases hjk : j < k
        · have EB := HE.out j hjk
          go_wp2_with fail
          refine (zzblock_any _ _ (k + 1) j (ext Z k e0) _ (by omega) (by omega) hN9).mono ?_
          rintro e wa ⟨rfl, ma, hwa⟩
          have hOa := hO9.drewN (m := ma)
          have hNa := hN9.drewN (m := ma)
          have hba := below_drewN (n := ma) hb9
          rw [← hwa] at hOa hNa hba
          clear hO9 hN9 hb9 hwa
          rw [EB]
          clear EB
          go_wp2_with fail
          refine (zzblock_any _ _ k j Z _ hjk (by omega) hOa).mono ?_
          rintro e wb ⟨rfl, mb, hwb⟩
          have hOb := hOa.drewN (m := mb)
          have hNb := hNa.drewN (m := mb)
          have hbb := below_drewN (n := mb) hba
          rw [← hwb] at hOb hNb hbb
          clear hOa hNa hba hwb
          generalize bs Z j = y at *
          go_wp2
          go_roundw
          case rel => exact ⟨j + 1, by omega, by go_num, hOb, hNb, hbb⟩
          case measure => simp [intOf]; omega
        · obtain rfl : j = k := by omega
          go_wp2
          go_ret
          exact ⟨rfl, hb9⟩

theorem walk (a0 : Option Addr) (len0 cap0 : Nat) (z0 : List Int) (a1 : Int) (w : World) (w0 : IsRow .i64 w a0 len0 cap0 z0) (w1 : (Lit.int .i64 a1).wf = true) :
    Calls Try.prog 5 #[.slice a0 len0 cap0, .int .i64 a1] w fun e w' => e = .returned (.bool true) ∧ Below w.heap.size w w' := by
  by_cases h : 131072 < len0
  · exact walk_long a0 len0 cap0 a1 w w0.len h
  · exact walk_in a0 len0 cap0 z0 a1 w w0 (by omega) (bounds_i64 w1)

/-! ### THE ROW's STEP: WRITTEN OUT: LEAVE IT -/
set_option maxRecDepth 100000 in
theorem lifted (os : Os) (started : os.Started) (H : Type) (enc : TypeId × Value → H) :
    ReturnsInHanded {} Try.checked os 5 .any (Rows.fnGivingABlockKeepsEarlierSizesSpec.pre6 enc Try.prog Try.f5 Rows.fnGivingABlockKeepsEarlierSizesRow.domain false) (Rows.fnGivingABlockKeepsEarlierSizesSpec.post enc Try.prog Try.f5 false true false false) := by
  refine returnsInHanded_of_change (C := Try.checked) own started (by kernel_rfl) Try.func5
    (ChangeSpec.witness6 (enc := enc) (C := Try.checked) false ⟨#[], #[.slice none 0 0, .int .i64 0], []⟩ 8 (by kernel_rfl) (by kernel_rfl) (by kernel_rfl) (by kernel_rfl)) ?_
  intro W base args ds gs before hval0 hW hcnd _
  have hval : ∀ (j : Nat) t v, Try.f5.params[j]? = some t → args[j]? = some v → Value.okWide Try.prog W .any base t v := hval0
  have hW' := hW
  obtain ⟨p, q, hA0, hV, rfl, hfz, hnd⟩ := hW
  have hA : DataW.TrodAll enc Try.prog W 0 (fun _ => true) true Try.f5.params.toList args.toList ds p := hA0
  rw [Try.params5] at hA hval
  obtain ⟨v0, vs0, d0, ds0, p0, q0, hargs, rfl, rfl, h0, r0⟩ := trodAll_cons hA
  obtain ⟨v1, vs1, d1, ds1, p1, q1, rfl, rfl, rfl, h1, r1⟩ := trodAll_cons r0
  obtain ⟨rfl, rfl, rfl⟩ := trodAll_nil r1
  obtain rfl : args = #[v0, v1] := by cases args; simp_all
  obtain ⟨rfl, rfl⟩ := trodVars_none hV
  obtain ⟨a0, len0, cap0, rfl⟩ := okWide_slice Try.underlying22 (hval 0 22 v0 rfl rfl)
  have k0 := h0
  have lt0 : ∀ x ∈ p0, x.block < W.heap.size := by obtain ⟨m, hm⟩ := k0; exact DataW.trod_lt m _ _ _ hm
  obtain ⟨z0, w0⟩ : ∃ zs, IsRow .i64 W a0 len0 cap0 zs := by
    obtain ⟨fuel, hf⟩ := h0
    rcases open_ints Try.underlying22 Try.underlying2 (by kernel_rfl) hf with ⟨hcs, _⟩ | ⟨x, l, c, zs, hcs, _, hl, hm, hz, _, hcell, hwz⟩
    · simp [Value.cells] at hcs
      obtain ⟨rfl, rfl, rfl⟩ := hcs
      exact ⟨[], .inl ⟨rfl, rfl, rfl, rfl⟩⟩
    · simp [Value.cells] at hcs
      obtain ⟨rfl, rfl, rfl⟩ := hcs
      exact ⟨zs, .inr ⟨_, rfl, hl, hm, by simpa using hz, hcell, hwz⟩⟩
  obtain ⟨a1, rfl, rfl, rfl, w1⟩ := open_int Try.underlying2 (hval 1 2 v1 rfl rfl) h1
  clear hA0 hval0
  refine (walk a0 len0 cap0 z0 a1 W w0 w1).mono fun e W' ⟨he, bel⟩ => ?_
  subst he
  exact ⟨_, rfl, _, _, _, [], _, [], hW', trodAll_mk1 (shut_bool Try.underlying4 _), (trodAll_cons_mk (Below.trod laidOut (by kernel_rfl) (of_decide_eq_true (by kernel_rfl)) k0 bel lt0) (trodAll_cons_mk (shut_int Try.underlying2 w1) trodAll_mk0)), rfl, bel.frame _, fun h => by cases h⟩

theorem over : Rows.fnGivingABlockKeepsEarlierSizesRow.holds Try.pinned (OpenSpec.ofChange Rows.fnGivingABlockKeepsEarlierSizesSpec) :=
  OpenClaim.holds_of_wide 5 Try.f5 rfl rfl rfl rfl rfl rfl rfl ⟨rfl, rfl, rfl, rfl, rfl⟩ rfl rfl rfl rfl rfl (by kernel_rfl) Try.func5 (by kernel_rfl)
    (of_decide_eq_true (by kernel_rfl)) (by unfold Func.isWrapper; first | (rw [if_pos (by decide +kernel)]; kernel_rfl) | (rw [if_neg (by decide +kernel)]; exact ⟨rfl, rfl⟩))
    (fun os started H enc _ => lifted os started H enc)

/-- ████ THE STATEMENT ████ -/
theorem proved : Rows.FnGivingABlockKeepsEarlierSizesSaid := over
#print axioms proved
end Go.Proofs.Qxb6603891a.fnGivingABlockKeepsEarlierSizes
