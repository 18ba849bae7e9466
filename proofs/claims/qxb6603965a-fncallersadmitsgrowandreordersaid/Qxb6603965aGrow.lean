import Derived.Test.Qxb6603965aParts
import Derived.WalkKit
import Derived.ProofKit
import Derived.OpenShut
import Derived.ShutString
import Derived.ChangeOld
import Derived.Below
namespace Go.Proofs.Qxb6603965a.fnCallersAdmitsGrowAndReorder
open Go.ChangeShapes Go.WideShapes Go.ChangeAt Go.RowKit
open Go.ChangeMaps (open_string shut_string)
set_option linter.unusedVariables false

theorem own : ownKnob Try.prog.godebug = none := by kernel_rfl
theorem laidOut : laidOutB Try.prog = true := by kernel_rfl

/-! ### The plain laws -/
/-- The new id in front, the old ones reversed behind it. -/
def ext (U : Nat → Int) (n : Nat) (e : Int) : Nat → Int := fun i => if i = 0 then e else U (n - i)
/-- Reversed. -/
def rev (G : Nat → Int) (m : Nat) : Nat → Int := fun i => G (m - 1 - i)
theorem has_ext (U : Nat → Int) (n : Nat) (e x : Int) : has (ext U n e) x (n + 1) = (has U x n || decide (x = e)) := by
  rw [Bool.eq_iff_iff, Bool.or_eq_true, has_iff, has_iff, decide_eq_true_eq]
  constructor
  · rintro ⟨i, h1, h2⟩
    unfold ext at h2
    by_cases c : i = 0
    · rw [if_pos c] at h2; exact .inr h2.symm
    · rw [if_neg c] at h2; exact .inl ⟨n - i, by omega, h2⟩
  · rintro (⟨i, h1, h2⟩ | h)
    · refine ⟨n - i, by omega, ?_⟩
      unfold ext; rw [if_neg (by omega), show n - (n - i) = i by omega]; exact h2
    · exact ⟨0, by omega, by unfold ext; rw [if_pos rfl]; exact h.symm⟩
theorem has_rev (G : Nat → Int) (m : Nat) (y : Int) : has (rev G m) y m = has G y m := by
  rw [Bool.eq_iff_iff, has_iff, has_iff]
  constructor
  · rintro ⟨i, h1, h2⟩; exact ⟨m - 1 - i, by omega, h2⟩
  · rintro ⟨i, h1, h2⟩; exact ⟨m - 1 - i, by omega, by unfold rev; rw [show m - 1 - (m - 1 - i) = i by omega]; exact h2⟩

theorem Hid.mk' {p : Prop} (h : p) : Hid p := h
theorem row_first (w : World) (n : Nat) (U : Nat → Int) (e : Int) : (w.alloc (.cells ((madeCells #[.int .u32 0] (n + 1)).setIfInBounds 0 (.int .u32 e)) 23)).rowIs w.heap.size 23 (n + 1) (fun i => .int .u32 (if i < 0 + 1 then ext U n e i else 0)) := by
  have h := (World.rowIs_made w (.int .u32 0) (n + 1) 23).set 0 (.int .u32 e)
  rw [World.setCell_alloc_at _ _ _ _ _ rfl] at h
  exact h.congr fun i _ => by
    by_cases c : i = 0
    · subst c; simp [ext]
    · rw [if_neg c, if_neg (by omega)]
theorem row_ext_step {w : World} {b n k : Nat} {U : Nat → Int} {e : Int} (hk : k < n) (h : w.rowIs b 23 (n + 1) (fun i => .int .u32 (if i < k + 1 then ext U n e i else 0))) : (w.setCell ⟨b, k + 1, none⟩ (.int .u32 (U (n - 1 - k)))).rowIs b 23 (n + 1) (fun i => .int .u32 (if i < k + 1 + 1 then ext U n e i else 0)) := by
  have h2 := row_step h
  have e1 : ext U n e (k + 1) = U (n - 1 - k) := by unfold ext; rw [if_neg (by omega)]; congr 1; omega
  rw [e1] at h2
  exact h2

/-- The Callers' block. -/
theorem admits_boxed (uo go : Option Addr) (n m : Nat) (U G : Nat → Int) (x y : Int) (w : World) (B : Bool) (hn : n ≤ 200000) (hm : m ≤ 200000) (rU : Hid (Rd w uo n U)) (rG : Hid (Rd w go m G)) (hB : Hid ((has U x n || has G y m) = B)) :
    Calls Try.prog 6 #[.pointer (some ⟨w.heap.size, 0, none⟩), .int .u32 x, .int .u32 y] (w.alloc (.cells #[.slice uo n n, .slice go m m] 28)) fun e w' => e = .returned (.bool B) ∧ w.alloc (.cells #[.slice uo n n, .slice go m m] 28) = w' := by
  have h := admits_any w.heap.size uo go n m U G x y (w.alloc (.cells #[.slice uo n n, .slice go m m] 28)) hn hm (by simp) (by simp)
    (rU.out.below ((Below.refl _ _).alloc (Nat.le_refl _) _)) (rG.out.below ((Below.refl _ _).alloc (Nat.le_refl _) _))
  rw [hB.out] at h
  exact h.mono fun e w' ⟨h1, h2⟩ => ⟨h1, h2.symm⟩
theorem after_yes {U G : Nat → Int} {n m : Nat} {e x y : Int} (h : (has U x n || has G y m) = true) : (has (ext U n e) x (n + 1) || has (rev G m) y m) = true := by
  rw [has_ext, has_rev]
  cases h1 : has U x n <;> cases h2 : has G y m <;> simp_all
theorem after_new {U G : Nat → Int} {n m : Nat} {e x y : Int} (h : x = e) : (has (ext U n e) x (n + 1) || has (rev G m) y m) = true := by
  rw [has_ext, has_rev, decide_eq_true h]; simp
theorem after_no {U G : Nat → Int} {n m : Nat} {e x y : Int} (h : (has U x n || has G y m) = false) (h2 : ¬ x = e) : (has (ext U n e) x (n + 1) || has (rev G m) y m) = false := by
  rw [has_ext, has_rev, decide_eq_false h2]
  simpa using h

/-! ### The walk -/
set_option maxHeartbeats 1000000 in
set_option maxRecDepth 100000 in
theorem walk_long (a0 a1 : Option Addr) (n c n1 c1 : Nat) (x y z : Int) (w : World) (h : n ≤ maxLen) (h1 : n1 ≤ maxLen) (hl : 65536 < n ∨ 65536 < n1) :
    Calls Try.prog 3 #[.slice a0 n c, .slice a1 n1 c1, .int .u32 x, .int .u32 y, .int .u32 z] w fun e w' => e = .returned (.bool true) ∧ Below w.heap.size w w' := by
  by_cases hn : 65536 < n
  · go_enter Try.func3, Try.ntmps3
    go_wp2_with fail
    refine (len4 a0 a1 n c n1 c1 x y z _ h h1).mono ?_
    rintro e w1 ⟨⟨B, rfl⟩, hw⟩
    subst hw
    cases B
    all_goals
      go_wp2
      go_ret
      exact ⟨rfl, Below.refl _ _⟩
  · have hn1 : 65536 < n1 := by omega
    clear hl
    go_enter Try.func3, Try.ntmps3
    go_wp2_with fail
    refine (len4 a0 a1 n c n1 c1 x y z _ h h1).mono ?_
    rintro e w1 ⟨⟨B, rfl⟩, hw⟩
    subst hw
    cases B
    all_goals
      go_wp2
      go_ret
      exact ⟨rfl, Below.refl _ _⟩

set_option maxHeartbeats 1000000 in
set_option maxRecDepth 100000 in
theorem walk_in (a0 a1 : Option Addr) (n c m d : Nat) (zs ys : List Int) (ex x y : Int) (w : World) (hR : Hid (IsRow .u32 w a0 n c zs)) (hS : Hid (IsRow .u32 w a1 m d ys)) (hn : n ≤ 65536) (hm : m ≤ 65536) :
    Calls Try.prog 3 #[.slice a0 n c, .slice a1 m d, .int .u32 ex, .int .u32 x, .int .u32 y] w fun e w' => e = .returned (.bool true) ∧ Below w.heap.size w w' := by
  obtain ⟨U, hU⟩ : ∃ Z : Nat → Int, Hid (Z = fun i => zs.getD i 0) := ⟨_, rfl⟩
  obtain ⟨G, hG⟩ : ∃ Z : Nat → Int, Hid (Z = fun i => ys.getD i 0) := ⟨_, rfl⟩
  have hmk := run_make_row' (P := Try.prog) 22 23 (.int .u32 0) 4 Try.underlying22 Try.info23 rfl .i64 .i64 (n + 1) (by omega) (by omega)
  have ec : ((n + 1 : Nat) : Int) = (n : Int) + 1 := by omega
  rw [ec] at hmk
  clear ec
  have hmc : (madeCells #[Value.int .u32 0] (n + 1))[0]? = some (.int .u32 0) := by simp [madeCells]
  go_enter Try.func3, Try.ntmps3
  go_wp2_with fail
  refine (len4_small a0 a1 n c m d ex x y _ hn hm).mono ?_
  rintro e w1 ⟨rfl, hw⟩
  subst hw
  go_wp2_with fail
  refine (copy_any a0 n c zs _ hR.out (by omega)).mono ?_
  rintro e w2 ⟨uo, rfl, rU, hb2⟩
  rw [← hU.out] at rU
  clear hR
  go_wp2_with fail
  refine (copy_any a1 m d ys _ (hS.out.below hb2) (by omega)).mono ?_
  rintro e w3 ⟨go, rfl, rG, hb3⟩
  rw [← hG.out] at rG
  have RU3 : Hid (Rd w3 uo n U) := rU.below hb3
  have RG3 : Hid (Rd w3 go m G) := rG
  have hB3 := hb2.trans (hb3.mono hb2.size)
  clear hS rU rG hb2 hb3
  go_wp2_with fail
  go_loopw [12] (fun i wr => ∃ k : Nat, k ≤ n ∧ i = .int .i64 k ∧ wr.rowIs w3.heap.size 23 (n + 1) (fun i => .int .u32 (if i < k + 1 then ext U n ex i else 0)) ∧ Below w3.heap.size w3 wr) (fun i _ => n - (intOf i).toNat)
  case atStart => exact ⟨0, by omega, rfl, row_first w3 n U ex, (Below.refl _ _).alloc (Nat.le_refl _) _⟩
  case round =>
    obtain ⟨k, hk, rfl, hr, hb4⟩ := hrel
    clear hmk hmc
    by_cases hlt : k < n
    · obtain ⟨be, e1, hc⟩ := RU3.out (n - 1 - k) (by omega)
      subst e1
      have hbl : be < w3.heap.size := World.block_lt_of_cell? _ _ hc
      have g1 : wr.cell? ⟨be, n - 1 - k, none⟩ = some (.int .u32 (U (n - 1 - k))) := (hb4.cell (p := ⟨be, n - 1 - k, none⟩) hbl).trans hc
      have g2 := hr.cell (show k + 1 < n + 1 by omega)
      have g3 := hr.frozen (k + 1)
      have i1 : (0 : Int) ≤ (n : Int) - 1 - (k : Int) := by omega
      have i2 : (n : Int) - 1 - (k : Int) < (n : Int) := by omega
      clear hc
      go_wp2
      go_roundw
      case rel => exact ⟨k + 1, by omega, by go_num, row_ext_step hlt hr, hb4.setCell (Nat.le_refl _) _⟩
      case measure => simp [intOf]; omega
    · obtain rfl : k = n := by omega
      have hmk2 := run_make_row' (P := Try.prog) 22 23 (.int .u32 0) 4 Try.underlying22 Try.info23 rfl .i64 .i64 m (by omega) (by omega)
      have RE : Hid (Rd wr (some ⟨w3.heap.size, 0, none⟩) (k + 1) (ext U k ex)) := Rd.of_row (row_done hr)
      have RU4 : Hid (Rd wr uo k U) := RU3.out.below hb4
      have RG4 : Hid (Rd wr go m G) := RG3.out.below hb4
      have hB4 := hB3.trans (hb4.mono hB3.size)
      clear RU3 RG3 hB3 hr hb4
      generalize wr = w5 at *
      go_wp2_with fail
      go_loopw [14] (fun i wi => ∃ j : Nat, j ≤ m ∧ i = .int .i64 j ∧ wi.rowIs w5.heap.size 23 m (fun i => .int .u32 (if i < j then rev G m i else 0)) ∧ Below w5.heap.size w5 wi) (fun i _ => m - (intOf i).toNat)
      case atStart => exact ⟨0, by omega, rfl, row_zero w5 m (rev G m), (Below.refl _ _).alloc (Nat.le_refl _) _⟩
      case round =>
        obtain ⟨j, hj, rfl, hr, hb5⟩ := hrel
        clear hmk2
        by_cases hjm : j < m
        · obtain ⟨be, e1, hc⟩ := RG4.out (m - 1 - j) (by omega)
          subst e1
          have hbl : be < w5.heap.size := World.block_lt_of_cell? _ _ hc
          have g1 : wr.cell? ⟨be, m - 1 - j, none⟩ = some (.int .u32 (G (m - 1 - j))) := (hb5.cell (p := ⟨be, m - 1 - j, none⟩) hbl).trans hc
          have g2 := hr.cell hjm
          have g3 := hr.frozen j
          have i1 : (0 : Int) ≤ (m : Int) - 1 - (j : Int) := by omega
          have i2 : (m : Int) - 1 - (j : Int) < (m : Int) := by omega
          have hst : (wr.setCell ⟨w5.heap.size, j, none⟩ (.int .u32 (G (m - 1 - j)))).rowIs w5.heap.size 23 m (fun i => .int .u32 (if i < j + 1 then rev G m i else 0)) := row_step hr
          have HST := Hid.mk' hst
          clear hc hst
          go_wp2
          go_roundw
          case rel => exact ⟨j + 1, by omega, by go_num, HST.out, hb5.setCell (Nat.le_refl _) _⟩
          case measure => simp [intOf]; omega
        · obtain rfl : j = m := by omega
          have RV : Hid (Rd wr (some ⟨w5.heap.size, 0, none⟩) j (rev G j)) := Rd.of_row (row_done hr)
          have RE5 : Hid (Rd wr (some ⟨w3.heap.size, 0, none⟩) (k + 1) (ext U k ex)) := RE.out.below hb5
          have RU5 : Hid (Rd wr uo k U) := RU4.out.below hb5
          have RG5 : Hid (Rd wr go j G) := RG4.out.below hb5
          have hB5 := hB4.trans (hb5.mono hB4.size)
          clear RE RU4 RG4 hB4 hr hb5
          by_cases c1 : (has U x k || has G y j) = true
          · have HB : Hid ((has U x k || has G y j) = true) := c1
            have HA : Hid ((has (ext U k ex) x (k + 1) || has (rev G j) y j) = true) := after_yes c1
            clear c1
            go_wp2_with fail
            refine (admits_boxed uo go k j U G x y wr true (by omega) (by omega) RU5 RG5 HB).mono ?_
            rintro e w6 ⟨rfl, hw6⟩
            have RV6 : Hid (Rd w6 (some ⟨w5.heap.size, 0, none⟩) j (rev G j)) := by rw [← hw6]; exact RV.out.below ((Below.refl _ _).alloc (Nat.le_refl _) _)
            have RE6 : Hid (Rd w6 (some ⟨w3.heap.size, 0, none⟩) (k + 1) (ext U k ex)) := by rw [← hw6]; exact RE5.out.below ((Below.refl _ _).alloc (Nat.le_refl _) _)
            have hB6 := hB5.alloc hB5.size (.cells #[.slice uo k k, .slice go j j] 28)
            rw [hw6] at hB6
            clear hw6 hB5 RV RE5 RU5 RG5
            go_wp2_with fail
            refine (admits_boxed _ _ (k + 1) j (ext U k ex) (rev G j) x y w6 true (by omega) (by omega) RE6 RV6 HA).mono ?_
            rintro e w7 ⟨rfl, hw7⟩
            have hB7 := hB6.alloc hB6.size (.cells #[.slice (some ⟨w3.heap.size, 0, none⟩) (k + 1) (k + 1), .slice (some ⟨w5.heap.size, 0, none⟩) j j] 28)
            rw [hw7] at hB7
            clear hw7 hB6
            go_wp2
            go_ret
            exact ⟨rfl, hB7⟩
          have c1' : (has U x k || has G y j) = false := by simpa using c1
          clear c1
          by_cases c2 : x = ex
          · have HB : Hid ((has U x k || has G y j) = false) := c1'
            have HA : Hid ((has (ext U k ex) x (k + 1) || has (rev G j) y j) = true) := after_new c2
            have tx : (x == ex) = true := by simp [c2]
            clear c1' c2
            go_wp2_with fail
            refine (admits_boxed uo go k j U G x y wr false (by omega) (by omega) RU5 RG5 HB).mono ?_
            rintro e w6 ⟨rfl, hw6⟩
            have RV6 : Hid (Rd w6 (some ⟨w5.heap.size, 0, none⟩) j (rev G j)) := by rw [← hw6]; exact RV.out.below ((Below.refl _ _).alloc (Nat.le_refl _) _)
            have RE6 : Hid (Rd w6 (some ⟨w3.heap.size, 0, none⟩) (k + 1) (ext U k ex)) := by rw [← hw6]; exact RE5.out.below ((Below.refl _ _).alloc (Nat.le_refl _) _)
            have hB6 := hB5.alloc hB5.size (.cells #[.slice uo k k, .slice go j j] 28)
            rw [hw6] at hB6
            clear hw6 hB5 RV RE5 RU5 RG5
            go_wp2_with fail
            refine (admits_boxed _ _ (k + 1) j (ext U k ex) (rev G j) x y w6 true (by omega) (by omega) RE6 RV6 HA).mono ?_
            rintro e w7 ⟨rfl, hw7⟩
            have hB7 := hB6.alloc hB6.size (.cells #[.slice (some ⟨w3.heap.size, 0, none⟩) (k + 1) (k + 1), .slice (some ⟨w5.heap.size, 0, none⟩) j j] 28)
            rw [hw7] at hB7
            clear hw7 hB6
            go_wp2
            go_ret
            exact ⟨rfl, hB7⟩
          · have HB : Hid ((has U x k || has G y j) = false) := c1'
            have HA : Hid ((has (ext U k ex) x (k + 1) || has (rev G j) y j) = false) := after_no c1' c2
            have tx : (x == ex) = false := by simp [c2]
            clear c1' c2
            go_wp2_with fail
            refine (admits_boxed uo go k j U G x y wr false (by omega) (by omega) RU5 RG5 HB).mono ?_
            rintro e w6 ⟨rfl, hw6⟩
            have RV6 : Hid (Rd w6 (some ⟨w5.heap.size, 0, none⟩) j (rev G j)) := by rw [← hw6]; exact RV.out.below ((Below.refl _ _).alloc (Nat.le_refl _) _)
            have RE6 : Hid (Rd w6 (some ⟨w3.heap.size, 0, none⟩) (k + 1) (ext U k ex)) := by rw [← hw6]; exact RE5.out.below ((Below.refl _ _).alloc (Nat.le_refl _) _)
            have hB6 := hB5.alloc hB5.size (.cells #[.slice uo k k, .slice go j j] 28)
            rw [hw6] at hB6
            clear hw6 hB5 RV RE5 RU5 RG5
            go_wp2_with fail
            refine (admits_boxed _ _ (k + 1) j (ext U k ex) (rev G j) x y w6 false (by omega) (by omega) RE6 RV6 HA).mono ?_
            rintro e w7 ⟨rfl, hw7⟩
            have hB7 := hB6.alloc hB6.size (.cells #[.slice (some ⟨w3.heap.size, 0, none⟩) (k + 1) (k + 1), .slice (some ⟨w5.heap.size, 0, none⟩) j j] 28)
            rw [hw7] at hB7
            clear hw7 hB6
            go_wp2
            go_ret
            exact ⟨rfl, hB7⟩

theorem walk (a0 : Option Addr) (len0 cap0 : Nat) (z0 : List Int) (a1 : Option Addr) (len1 cap1 : Nat) (z1 : List Int) (a2 : Int) (a3 : Int) (a4 : Int) (w : World) (w0 : IsRow .u32 w a0 len0 cap0 z0) (w1 : IsRow .u32 w a1 len1 cap1 z1) (w2 : (Lit.int .u32 a2).wf = true) (w3 : (Lit.int .u32 a3).wf = true) (w4 : (Lit.int .u32 a4).wf = true) :
    Calls Try.prog 3 #[.slice a0 len0 cap0, .slice a1 len1 cap1, .int .u32 a2, .int .u32 a3, .int .u32 a4] w fun e w' => e = .returned (.bool true) ∧ Below w.heap.size w w' := by
  by_cases h : 65536 < len0 ∨ 65536 < len1
  · exact walk_long a0 a1 len0 cap0 len1 cap1 a2 a3 a4 w w0.len w1.len h
  · exact walk_in a0 a1 len0 cap0 len1 cap1 z0 z1 a2 a3 a4 w w0 w1 (by omega) (by omega)

/-! ### THE ROW's STEP: WRITTEN OUT: LEAVE IT -/
set_option maxRecDepth 100000 in
theorem lifted (os : Os) (started : os.Started) (H : Type) (enc : TypeId × Value → H) :
    ReturnsInHanded {} Try.checked os 3 .any (Rows.fnCallersAdmitsGrowAndReorderSpec.pre6 enc Try.prog Try.f3 Rows.fnCallersAdmitsGrowAndReorderRow.domain false) (Rows.fnCallersAdmitsGrowAndReorderSpec.post enc Try.prog Try.f3 false true false false) := by
  refine returnsInHanded_of_change (C := Try.checked) own started (by kernel_rfl) Try.func3
    (ChangeSpec.witness6 (enc := enc) (C := Try.checked) false ⟨#[], #[.slice none 0 0, .slice none 0 0, .int .u32 0, .int .u32 0, .int .u32 0], []⟩ 8 (by kernel_rfl) (by kernel_rfl) (by kernel_rfl) (by kernel_rfl)) ?_
  intro W base args ds gs before hval0 hW hcnd _
  have hval : ∀ (j : Nat) t v, Try.f3.params[j]? = some t → args[j]? = some v → Value.okWide Try.prog W .any base t v := hval0
  have hW' := hW
  obtain ⟨p, q, hA0, hV, rfl, hfz, hnd⟩ := hW
  have hA : DataW.TrodAll enc Try.prog W 0 (fun _ => true) true Try.f3.params.toList args.toList ds p := hA0
  rw [Try.params3] at hA hval
  obtain ⟨v0, vs0, d0, ds0, p0, q0, hargs, rfl, rfl, h0, r0⟩ := trodAll_cons hA
  obtain ⟨v1, vs1, d1, ds1, p1, q1, rfl, rfl, rfl, h1, r1⟩ := trodAll_cons r0
  obtain ⟨v2, vs2, d2, ds2, p2, q2, rfl, rfl, rfl, h2, r2⟩ := trodAll_cons r1
  obtain ⟨v3, vs3, d3, ds3, p3, q3, rfl, rfl, rfl, h3, r3⟩ := trodAll_cons r2
  obtain ⟨v4, vs4, d4, ds4, p4, q4, rfl, rfl, rfl, h4, r4⟩ := trodAll_cons r3
  obtain ⟨rfl, rfl, rfl⟩ := trodAll_nil r4
  obtain rfl : args = #[v0, v1, v2, v3, v4] := by cases args; simp_all
  obtain ⟨rfl, rfl⟩ := trodVars_none hV
  obtain ⟨a0, len0, cap0, rfl⟩ := okWide_slice Try.underlying22 (hval 0 22 v0 rfl rfl)
  have k0 := h0
  have lt0 : ∀ x ∈ p0, x.block < W.heap.size := by obtain ⟨m, hm⟩ := k0; exact DataW.trod_lt m _ _ _ hm
  obtain ⟨z0, w0⟩ : ∃ zs, IsRow .u32 W a0 len0 cap0 zs := by
    obtain ⟨fuel, hf⟩ := h0
    rcases open_ints Try.underlying22 Try.underlying23 (by kernel_rfl) hf with ⟨hcs, _⟩ | ⟨x, l, c, zs, hcs, _, hl, hm, hz, _, hcell, hwz⟩
    · simp [Value.cells] at hcs
      obtain ⟨rfl, rfl, rfl⟩ := hcs
      exact ⟨[], .inl ⟨rfl, rfl, rfl, rfl⟩⟩
    · simp [Value.cells] at hcs
      obtain ⟨rfl, rfl, rfl⟩ := hcs
      exact ⟨zs, .inr ⟨_, rfl, hl, hm, by simpa using hz, hcell, hwz⟩⟩
  obtain ⟨a1, len1, cap1, rfl⟩ := okWide_slice Try.underlying22 (hval 1 22 v1 rfl rfl)
  have k1 := h1
  have lt1 : ∀ x ∈ p1, x.block < W.heap.size := by obtain ⟨m, hm⟩ := k1; exact DataW.trod_lt m _ _ _ hm
  obtain ⟨z1, w1⟩ : ∃ zs, IsRow .u32 W a1 len1 cap1 zs := by
    obtain ⟨fuel, hf⟩ := h1
    rcases open_ints Try.underlying22 Try.underlying23 (by kernel_rfl) hf with ⟨hcs, _⟩ | ⟨x, l, c, zs, hcs, _, hl, hm, hz, _, hcell, hwz⟩
    · simp [Value.cells] at hcs
      obtain ⟨rfl, rfl, rfl⟩ := hcs
      exact ⟨[], .inl ⟨rfl, rfl, rfl, rfl⟩⟩
    · simp [Value.cells] at hcs
      obtain ⟨rfl, rfl, rfl⟩ := hcs
      exact ⟨zs, .inr ⟨_, rfl, hl, hm, by simpa using hz, hcell, hwz⟩⟩
  obtain ⟨a2, rfl, rfl, rfl, w2⟩ := open_int Try.underlying23 (hval 2 23 v2 rfl rfl) h2
  obtain ⟨a3, rfl, rfl, rfl, w3⟩ := open_int Try.underlying23 (hval 3 23 v3 rfl rfl) h3
  obtain ⟨a4, rfl, rfl, rfl, w4⟩ := open_int Try.underlying23 (hval 4 23 v4 rfl rfl) h4
  clear hA0 hval0
  refine (walk a0 len0 cap0 z0 a1 len1 cap1 z1 a2 a3 a4 W w0 w1 w2 w3 w4).mono fun e W' ⟨he, bel⟩ => ?_
  subst he
  exact ⟨_, rfl, _, _, _, [], _, [], hW', trodAll_mk1 (shut_bool Try.underlying4 _), (trodAll_cons_mk (Below.trod laidOut (by kernel_rfl) (of_decide_eq_true (by kernel_rfl)) k0 bel lt0) (trodAll_cons_mk (Below.trod laidOut (by kernel_rfl) (of_decide_eq_true (by kernel_rfl)) k1 bel lt1) (trodAll_cons_mk (shut_int Try.underlying23 w2) (trodAll_cons_mk (shut_int Try.underlying23 w3) (trodAll_cons_mk (shut_int Try.underlying23 w4) trodAll_mk0))))), rfl, bel.frame _, fun h => by cases h⟩

theorem over : Rows.fnCallersAdmitsGrowAndReorderRow.holds Try.pinned (OpenSpec.ofChange Rows.fnCallersAdmitsGrowAndReorderSpec) :=
  OpenClaim.holds_of_wide 3 Try.f3 rfl rfl rfl rfl rfl rfl rfl ⟨rfl, rfl, rfl, rfl, rfl⟩ rfl rfl rfl rfl rfl (by kernel_rfl) Try.func3 (by kernel_rfl)
    (of_decide_eq_true (by kernel_rfl)) (by unfold Func.isWrapper; first | (rw [if_pos (by decide +kernel)]; kernel_rfl) | (rw [if_neg (by decide +kernel)]; exact ⟨rfl, rfl⟩))
    (fun os started H enc _ => lifted os started H enc)

/-- ████ THE STATEMENT ████ -/
theorem proved : Rows.FnCallersAdmitsGrowAndReorderSaid := over
#print axioms proved
end Go.Proofs.Qxb6603965a.fnCallersAdmitsGrowAndReorder
